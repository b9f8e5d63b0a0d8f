/- A block that is known whole; the state that the package's doors make. -/
import Derived.Test.YtbbgdcfbpgmjbaaGreatDoorRows
import Derived.WalkKit
import Derived.WalkSpells
import Derived.WalkLawsBesides
import Derived.Deep.Draws
import Derived.Laws.Rows
namespace Go.Proofs.YtbbgdcfbpgmjbaaGreatDoor
open Go.RowKit
/-- what zzState leaves: a state in a block of the call's own, its mark 'corner' not set -/
def StateMade (w : World) (e : Ending) (w' : World) : Prop := ∃ b : Nat, e = .returned (.pointer (some ⟨b, 0, none⟩)) ∧ w.heap.size ≤ b ∧ b < w'.heap.size ∧ w'.cell? ⟨b, 6, none⟩ = some (.bool false) ∧ w'.frozen? ⟨b, 6, none⟩ = false ∧ Below w.heap.size w w'
theorem zero6 : Tryz.zeroCells98[6]? = some (.bool false) := by kernel_rfl
theorem md_zzState (w : World) : Calls Tryz.prog 14 #[] w (StateMade w) := by
  have hmm := @run_makeMap Tryz.prog
  go_enter Tryz.func14, Tryz.ntmps14
  go_wp2_with (fail)
  go_ret
  refine ⟨_, rfl, by omega, by simp, ?_, ?_, (((Below.refl _ _).alloc (Nat.le_refl _) _).alloc (by simp) _).alloc (by simp; omega) _⟩
  · rw [show w.heap.size + 1 + 1 = ((w.alloc _).alloc (.map #[] 0)).heap.size from by simp, World.cell?_alloc_mark, Array.getElem?_setIfInBounds_ne (by decide), Array.getElem?_setIfInBounds_ne (by decide)]
    exact zero6
  · rw [show w.heap.size + 1 + 1 = ((w.alloc _).alloc (.map #[] 0)).heap.size from by simp, World.frozen?_alloc_mark]
    simp
end Go.Proofs.YtbbgdcfbpgmjbaaGreatDoor
