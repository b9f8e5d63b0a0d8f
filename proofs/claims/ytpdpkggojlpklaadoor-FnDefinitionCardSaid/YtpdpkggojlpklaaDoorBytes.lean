/- The classes of bytes: each function of them returns what the plain class says, and leaves the world alone. -/
import Derived.Test.YtpdpkggojlpklaaDoorPlain
import Derived.Test.YtpdpkggojlpklaaDoorRows
import Derived.WalkSpells
import Derived.WalkLawsBesides
namespace Go.Proofs.YtpdpkggojlpklaaDoor
open Go.RowKit

theorem md_isPunct (c : Int) (w : World) : Calls Tryd.prog 44 #[.int .u8 c] w fun e w' => e = .returned (.bool (punctB c)) ∧ w = w' := by
  go_enter Tryd.func44, Tryd.ntmps44
  go_wp2
  all_goals (go_ret; refine ⟨ret_bool ?_, rfl⟩; first | rfl | (rw [Bool.eq_iff_iff]; simp [punctB] at *; done) | (rw [Bool.eq_iff_iff]; simp [punctB] at *; omega))
theorem spec_IsLetter (c : Int) (w : World) : Calls Tryd.prog 20 #[.int .u8 c] w fun e w' => e = .returned (.bool (letB c)) ∧ w = w' := by
  go_enter Tryd.func20, Tryd.ntmps20
  go_wp2
  all_goals (go_ret; refine ⟨ret_bool ?_, rfl⟩; first | rfl | (rw [Bool.eq_iff_iff]; simp [letB, upB, loB] at *; done) | (rw [Bool.eq_iff_iff]; simp [letB, upB, loB] at *; omega))
theorem spec_IsDigit (c : Int) (w : World) : Calls Tryd.prog 21 #[.int .u8 c] w fun e w' => e = .returned (.bool (digB c)) ∧ w = w' := by
  go_enter Tryd.func21, Tryd.ntmps21
  go_wp2
  all_goals (go_ret; refine ⟨ret_bool ?_, rfl⟩; first | rfl | (rw [Bool.eq_iff_iff]; simp [digB] at *; done) | (rw [Bool.eq_iff_iff]; simp [digB] at *; omega))
theorem spec_IsBlank (c : Int) (w : World) : Calls Tryd.prog 16 #[.int .u8 c] w fun e w' => e = .returned (.bool (blankB c)) ∧ w = w' := by
  go_enter Tryd.func16, Tryd.ntmps16
  go_wp2
  all_goals (go_ret; refine ⟨ret_bool ?_, rfl⟩; first | rfl | (rw [Bool.eq_iff_iff]; simp [blankB] at *; done) | (rw [Bool.eq_iff_iff]; simp [blankB] at *; omega))
end Go.Proofs.YtpdpkggojlpklaaDoor
