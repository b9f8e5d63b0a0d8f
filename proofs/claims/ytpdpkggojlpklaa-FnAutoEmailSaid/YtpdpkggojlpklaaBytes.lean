/- The classes of bytes: each function of them returns what the plain class says, and leaves the world alone. -/
import Derived.Test.YtpdpkggojlpklaaPlain
import Derived.Test.YtpdpkggojlpklaaRows
import Derived.WalkSpells
import Derived.WalkLawsBesides
namespace Go.Proofs.Ytpdpkggojlpklaa
open Go.RowKit

theorem md_isLetterDigit (c : Int) (w : World) : Calls Try.prog 36 #[.int .u8 c] w fun e w' => e = .returned (.bool (alnB c)) ∧ w = w' := by
  go_enter Try.func36, Try.ntmps36
  go_wp2
  all_goals (go_ret; refine ⟨ret_bool ?_, rfl⟩; first | rfl | (rw [Bool.eq_iff_iff]; simp [alnB, letB, upB, loB, digB] at *; done) | (rw [Bool.eq_iff_iff]; simp [alnB, letB, upB, loB, digB] at *; omega))
theorem spec_IsLetter (c : Int) (w : World) : Calls Try.prog 23 #[.int .u8 c] w fun e w' => e = .returned (.bool (letB c)) ∧ w = w' := by
  go_enter Try.func23, Try.ntmps23
  go_wp2
  all_goals (go_ret; refine ⟨ret_bool ?_, rfl⟩; first | rfl | (rw [Bool.eq_iff_iff]; simp [letB, upB, loB] at *; done) | (rw [Bool.eq_iff_iff]; simp [letB, upB, loB] at *; omega))
theorem spec_IsDigit (c : Int) (w : World) : Calls Try.prog 24 #[.int .u8 c] w fun e w' => e = .returned (.bool (digB c)) ∧ w = w' := by
  go_enter Try.func24, Try.ntmps24
  go_wp2
  all_goals (go_ret; refine ⟨ret_bool ?_, rfl⟩; first | rfl | (rw [Bool.eq_iff_iff]; simp [digB] at *; done) | (rw [Bool.eq_iff_iff]; simp [digB] at *; omega))
theorem md_isLDH (c : Int) (w : World) : Calls Try.prog 37 #[.int .u8 c] w fun e w' => e = .returned (.bool (ldhB c)) ∧ w = w' := by
  go_enter Try.func37, Try.ntmps37
  go_wp2_with (go_at_call 36; refine (md_isLetterDigit _ _).mono ?_; rintro e w' ⟨rfl, rfl⟩)
  all_goals (go_ret; refine ⟨ret_bool ?_, rfl⟩; first | rfl | (rw [Bool.eq_iff_iff]; simp [ldhB, alnB, letB, upB, loB, digB] at *; done) | (rw [Bool.eq_iff_iff]; simp [ldhB, alnB, letB, upB, loB, digB] at *; omega))
end Go.Proofs.Ytpdpkggojlpklaa
