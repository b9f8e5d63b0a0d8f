/- FnTrims's walk: for every text it returns true and leaves memory below as it was. -/
import Derived.Test.YtigeaoijcjidbaaTrims
import Derived.Test.YtigeaoijcjidbaaStrip
namespace Go.Proofs.Ytigeaoijcjidbaa
open Go.RowKit
theorem in_st : inB [32, 9] = stB := by funext c; simp [inB, stB, Bool.beq_comm (b := c)]
theorem in_sp : inB [32, 9, 10] = spaceB := by funext c; simp [inB, spaceB, Bool.beq_comm (b := c), Bool.or_assoc]
theorem bel_step {B : Nat} {w a b : World} (h : Below B w a) (k : Below a.heap.size a b) (hB : B ≤ w.heap.size) : Below B w b := h.trans (k.mono (Nat.le_trans hB h.size))
theorem walkFnTrims (a0 : ByteArray) (w : World) (w0 : a0.size ≤ maxLen) : Calls Try.prog 11 #[.string a0] w fun e w' => e = .returned (.bool true) ∧ Below w.heap.size w w' := by
  have hs : a0.size ≤ 9223372036854775807 := w0
  have e1 : strippedB a0 ⟨#[32, 9]⟩ true false = stripF stB a0.data.toList := by simp [strippedB, in_st]
  have e2 : strippedB a0 ⟨#[32, 9]⟩ false true = stripE stB a0.data.toList := by simp [strippedB, in_st]
  have e3 : strippedB a0 ⟨#[32, 9]⟩ true true = stripE stB (stripF stB a0.data.toList) := by simp [strippedB, in_st]
  have e4 : strippedB a0 ⟨#[32, 9, 10]⟩ true true = stripE spaceB (stripF spaceB a0.data.toList) := by simp [strippedB, in_sp]
  have hbel : Below w.heap.size w w := Below.refl _ _
  go_enter Try.func11, Try.ntmps11
  go_wp2_with (first
    | (go_at_call 42; refine (impl_TrimLeftSpaceTab _ _ w0).mono ?_; rintro e w' ⟨rfl, rfl⟩)
    | (go_at_call 43; refine (impl_TrimRightSpaceTab _ _ w0).mono ?_; rintro e w' ⟨rfl, rfl⟩)
    | (go_at_call 44; refine (impl_TrimSpaceTab _ _ w0).mono ?_; rintro e w' ⟨rfl, rfl⟩)
    | (go_at_call 45; refine (impl_TrimSpaceTabNewline _ _ w0).mono ?_; rintro e w' ⟨rfl, rfl⟩)
    | (go_at_call 46; refine (impl_TrimSpace _ _ w0).mono ?_; rintro e w' ⟨rfl, rfl⟩)
    | (go_at_call 23; refine (laws_stripped _ _ _ _ _ w0).mono ?_; rintro e w2 ⟨rfl, hb⟩; replace hbel := bel_step hbel hb (Nat.le_refl _); clear hb))
  all_goals (go_ret; refine ⟨ret_bool ?_, hbel⟩; first | rfl | (simp; done) | (simp_all; done))
end Go.Proofs.Ytigeaoijcjidbaa
