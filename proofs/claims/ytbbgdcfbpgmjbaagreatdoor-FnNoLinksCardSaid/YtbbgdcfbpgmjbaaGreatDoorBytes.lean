/- The classes of bytes: each function of them returns what the plain class says, and leaves the world alone. -/
import Derived.Test.YtbbgdcfbpgmjbaaGreatDoorPlain
import Derived.Test.YtbbgdcfbpgmjbaaGreatDoorRows
import Derived.WalkSpells
import Derived.WalkLawsBesides
namespace Go.Proofs.YtbbgdcfbpgmjbaaGreatDoor
open Go.RowKit

theorem md_isLetter (c : Int) (w : World) : Calls Tryz.prog 23 #[.int .u8 c] w fun e w' => e = .returned (.bool (letB c)) ∧ w = w' := by
  go_enter Tryz.func23, Tryz.ntmps23
  go_wp2
  all_goals (go_ret; refine ⟨ret_bool ?_, rfl⟩; first | rfl | (rw [Bool.eq_iff_iff]; simp [letB, upB, loB] at *; done) | (rw [Bool.eq_iff_iff]; simp [letB, upB, loB] at *; omega))
theorem md_isLetterDigit (c : Int) (w : World) : Calls Tryz.prog 32 #[.int .u8 c] w fun e w' => e = .returned (.bool (alnB c)) ∧ w = w' := by
  go_enter Tryz.func32, Tryz.ntmps32
  go_wp2
  all_goals (go_ret; refine ⟨ret_bool ?_, rfl⟩; first | rfl | (rw [Bool.eq_iff_iff]; simp [alnB, letB, upB, loB, digB] at *; done) | (rw [Bool.eq_iff_iff]; simp [alnB, letB, upB, loB, digB] at *; omega))
theorem md_isLDH (c : Int) (w : World) : Calls Tryz.prog 27 #[.int .u8 c] w fun e w' => e = .returned (.bool (ldhB c)) ∧ w = w' := by
  go_enter Tryz.func27, Tryz.ntmps27
  go_wp2_with (go_at_call 32; refine (md_isLetterDigit _ _).mono ?_; rintro e w' ⟨rfl, rfl⟩)
  all_goals (go_ret; refine ⟨ret_bool ?_, rfl⟩; first | rfl | (rw [Bool.eq_iff_iff]; simp [ldhB, alnB, letB, upB, loB, digB] at *; done) | (rw [Bool.eq_iff_iff]; simp [ldhB, alnB, letB, upB, loB, digB] at *; omega))
end Go.Proofs.YtbbgdcfbpgmjbaaGreatDoor
