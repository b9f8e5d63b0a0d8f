/- The package's state with an empty map of links; its words 'link' and 'defineLink'. -/
import Derived.Test.YtpdpkggojlpklaaDoorRows
import Derived.WalkKit
import Derived.WalkSpells
import Derived.WalkLawsBesides
import Derived.WideMake
import Derived.Deep.Draws
import Derived.Laws.Rows
import Derived.Lib.Hide
import Derived.Below
namespace Go.Proofs.YtpdpkggojlpklaaDoor
open Go.RowKit
/-- the state in block b whose links are the map in block m, which is empty -/
structure StateAt (b m : Nat) (w : World) : Prop where
  cell : w.cell? ⟨b, 2, none⟩ = some (.map (some m))
  map : w.heap[m]? = some (.map #[] 0)
def putObj (w : World) (m : Nat) (o : Obj) : World := { w with heap := w.heap.setIfInBounds m o }
theorem putObj_size (w : World) (m : Nat) (o : Obj) : (putObj w m o).heap.size = w.heap.size := by simp [putObj]
theorem putObj_at {w : World} {m : Nat} (o : Obj) (h : m < w.heap.size) : (putObj w m o).heap[m]? = some o := by
  simp [putObj, h]
theorem putObj_other (w : World) {m k : Nat} (o : Obj) (h : k ≠ m) : (putObj w m o).heap[k]? = w.heap[k]? := by
  unfold putObj; exact Array.getElem?_setIfInBounds_ne (Ne.symm h)
theorem cell_putObj {w : World} {m k : Nat} (o : Obj) (j : Nat) (h : k ≠ m) : (putObj w m o).cell? ⟨k, j, none⟩ = w.cell? ⟨k, j, none⟩ := by
  simp [World.cell?, putObj_other w o h]
theorem bel_putObj {B : Nat} {a w : World} (h : Below B a w) {m : Nat} (hm : B ≤ m) (o : Obj) : Below B a (putObj w m o) :=
  ⟨h.os, h.tape, h.output, by rw [putObj_size]; exact h.size, fun b hb => (putObj_other w o (by omega)).trans (h.block b hb)⟩
theorem StateAt.kept {b m : Nat} {w w' : World} (h : StateAt b m w) (hb : b < w.heap.size) (hm : m < w.heap.size) (hk : Below w.heap.size w w') : StateAt b m w' :=
  ⟨(hk.cell (p := ⟨b, 2, none⟩) hb).trans h.cell, (hk.block m hm).trans h.map⟩
theorem bel_next {B : Nat} {w a b : World} (h : Below B w a) (k : Below a.heap.size a b) (hB : B ≤ w.heap.size) : Below B w b := h.trans (k.mono (Nat.le_trans hB h.size))
def NewState (w : World) (e : Ending) (w' : World) : Prop := ∃ b m : Nat, e = .returned (.pointer (some ⟨b, 0, none⟩)) ∧ w.heap.size ≤ b ∧ b < w'.heap.size ∧ w.heap.size ≤ m ∧ m < b ∧ StateAt b m w' ∧ Below w.heap.size w w'
theorem md_zzStateN (w : World) : Calls Tryd.prog 23 #[] w (NewState w) := by
  have hmm := @run_makeMap Tryd.prog
  go_enter Tryd.func23, Tryd.ntmps23
  go_wp2_with (fail)
  go_ret
  refine ⟨_, w.heap.size + 1, rfl, by omega, by simp, by omega, by omega, ⟨?_, ?_⟩, (((Below.refl _ _).alloc (Nat.le_refl _) _).alloc (by simp) _).alloc (by simp; omega) _⟩
  · rw [show w.heap.size + 1 + 1 = ((w.alloc _).alloc (.map #[] 0)).heap.size from by simp, World.cell?_alloc_mark]
    kernel_rfl
  · rw [heap_alloc_old _ _ (by simp)]
    rw [show w.heap.size + 1 = (w.alloc _).heap.size from by simp]
    exact heap_alloc_new _ _
theorem key_ok : Tryd.prog.underlying 49 = some (.map 9 31) := by kernel_rfl
theorem run_lookup_none (w : World) (m : Nat) (s : ByteArray) (h : w.heap[m]? = some (.map #[] 0)) :
    (Instr.lookup 49 (.map (some m)) (.string s) false).run Tryd.prog w = .ok (.pointer none) w := by
  have hf : Instr.findNow .string (.string s) ([] : List MapEntry) 0 = some none := rfl
  have hk : Tryd.prog.underlying 9 = some .string := by kernel_rfl
  have hc : (Instr.checkKey true 10000 9 (.string s)).run Tryd.prog w = .ok () w := MapKept.run_checkKey (k := .string s) hk (by simp [MapKept.IsKey]) true 9999
  have hz : (Tryd.prog.info? 31).map (·.zero) = some (some (.pointer none)) := by kernel_rfl
  obtain ⟨j, hj, hz'⟩ := Option.map_eq_some_iff.1 hz
  simp [Instr.lookup, run_underlying key_ok, MapKept.run_getObj_map h, hc, MapKept.run_findKey hk hf, Result.andThen, zeroValue, typeInfo, hj, hz']
theorem md_link (b m : Nat) (s : ByteArray) (w : World) (h : StateAt b m w) :
    Calls Tryd.prog 72 #[.pointer (some ⟨b, 0, none⟩), .string s] w fun e w' => e = .returned (.pointer none) ∧ w = w' := by
  have hl := run_lookup_none w m s h.map
  have hc := h.cell
  clear h
  go_enter Tryd.func72, Tryd.ntmps72
  go_wp2_with (fail)
  go_ret
  exact ⟨rfl, rfl⟩
theorem md_defineLink (b m : Nat) (s : ByteArray) (v : Value) (w : World) (h : StateAt b m w) :
    Calls Tryd.prog 70 #[.pointer (some ⟨b, 0, none⟩), .string s, v] w fun e w' => e = .returned (.tuple #[]) ∧ w' = putObj w m (.map #[{ key := .string s, val := v, born := 0 }] 1) := by
  have hu : (Instr.mapUpdate 49 (.map (some m)) (.string s) v).run Tryd.prog w = .ok () (putObj w m (.map #[{ key := .string s, val := v, born := 0 }] 1)) :=
    run_mapUpdate_first w 49 9 31 m 0 s v key_ok (by kernel_rfl) h.map
  have hc := h.cell
  have qT := fun (w : World) (r : Option Nat) => run_eql_map_nil (P := Tryd.prog) w 49 _ _ r key_ok
  clear h
  generalize putObj w m (.map #[{ key := .string s, val := v, born := 0 }] 1) = W at *
  go_enter Tryd.func70, Tryd.ntmps70
  go_wp2_with (fail)
  go_end0
  exact ⟨rfl, rfl⟩
end Go.Proofs.YtpdpkggojlpklaaDoor
