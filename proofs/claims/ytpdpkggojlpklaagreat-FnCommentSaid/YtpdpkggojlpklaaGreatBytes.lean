/- The classes of bytes: each function of them returns what the plain class says, and leaves the world alone. -/
import Derived.Test.YtpdpkggojlpklaaGreatPlain
import Derived.Test.YtpdpkggojlpklaaGreatRows
import Derived.WalkSpells
import Derived.WalkLawsBesides
namespace Go.Proofs.YtpdpkggojlpklaaGreat
open Go.RowKit

theorem md_isLetter (c : Int) (w : World) : Calls Tryz.prog 33 #[.int .u8 c] w fun e w' => e = .returned (.bool (letB c)) ∧ w = w' := by
  go_enter Tryz.func33, Tryz.ntmps33
  go_wp2
  all_goals (go_ret; refine ⟨ret_bool ?_, rfl⟩; first | rfl | (rw [Bool.eq_iff_iff]; simp [letB, upB, loB] at *; done) | (rw [Bool.eq_iff_iff]; simp [letB, upB, loB] at *; omega))
theorem md_isLetterDigit (c : Int) (w : World) : Calls Tryz.prog 38 #[.int .u8 c] w fun e w' => e = .returned (.bool (alnB c)) ∧ w = w' := by
  go_enter Tryz.func38, Tryz.ntmps38
  go_wp2
  all_goals (go_ret; refine ⟨ret_bool ?_, rfl⟩; first | rfl | (rw [Bool.eq_iff_iff]; simp [alnB, letB, upB, loB, digB] at *; done) | (rw [Bool.eq_iff_iff]; simp [alnB, letB, upB, loB, digB] at *; omega))
theorem md_isLDH (c : Int) (w : World) : Calls Tryz.prog 35 #[.int .u8 c] w fun e w' => e = .returned (.bool (ldhB c)) ∧ w = w' := by
  go_enter Tryz.func35, Tryz.ntmps35
  go_wp2_with (go_at_call 38; refine (md_isLetterDigit _ _).mono ?_; rintro e w' ⟨rfl, rfl⟩)
  all_goals (go_ret; refine ⟨ret_bool ?_, rfl⟩; first | rfl | (rw [Bool.eq_iff_iff]; simp [ldhB, alnB, letB, upB, loB, digB] at *; done) | (rw [Bool.eq_iff_iff]; simp [ldhB, alnB, letB, upB, loB, digB] at *; omega))
end Go.Proofs.YtpdpkggojlpklaaGreat
