/- The classes of bytes: each function of them returns what the plain class says, and leaves the world alone. -/
import Derived.Test.YtigeaoijcjidbaaDoorPlain
import Derived.Test.YtigeaoijcjidbaaDoorRows
import Derived.WalkSpells
import Derived.WalkLawsBesides
namespace Go.Proofs.YtigeaoijcjidbaaDoor
open Go.RowKit

theorem md_isPunct (c : Int) (w : World) : Calls Tryd.prog 36 #[.int .u8 c] w fun e w' => e = .returned (.bool (punctB c)) ∧ w = w' := by
  go_enter Tryd.func36, Tryd.ntmps36
  go_wp2
  all_goals (go_ret; refine ⟨ret_bool ?_, rfl⟩; first | rfl | (rw [Bool.eq_iff_iff]; simp [punctB] at *; done) | (rw [Bool.eq_iff_iff]; simp [punctB] at *; omega))
theorem spec_IsLetter (c : Int) (w : World) : Calls Tryd.prog 18 #[.int .u8 c] w fun e w' => e = .returned (.bool (letB c)) ∧ w = w' := by
  go_enter Tryd.func18, Tryd.ntmps18
  go_wp2
  all_goals (go_ret; refine ⟨ret_bool ?_, rfl⟩; first | rfl | (rw [Bool.eq_iff_iff]; simp [letB, upB, loB] at *; done) | (rw [Bool.eq_iff_iff]; simp [letB, upB, loB] at *; omega))
theorem spec_IsDigit (c : Int) (w : World) : Calls Tryd.prog 19 #[.int .u8 c] w fun e w' => e = .returned (.bool (digB c)) ∧ w = w' := by
  go_enter Tryd.func19, Tryd.ntmps19
  go_wp2
  all_goals (go_ret; refine ⟨ret_bool ?_, rfl⟩; first | rfl | (rw [Bool.eq_iff_iff]; simp [digB] at *; done) | (rw [Bool.eq_iff_iff]; simp [digB] at *; omega))
theorem spec_IsPunct (c : Int) (w : World) : Calls Tryd.prog 15 #[.int .u8 c] w fun e w' => e = .returned (.bool (punctB c)) ∧ w = w' := by
  go_enter Tryd.func15, Tryd.ntmps15
  go_wp2
  all_goals (go_ret; refine ⟨ret_bool ?_, rfl⟩; first | rfl | (rw [Bool.eq_iff_iff]; simp [punctB] at *; done) | (rw [Bool.eq_iff_iff]; simp [punctB] at *; omega))
theorem spec_IsHex (c : Int) (w : World) : Calls Tryd.prog 33 #[.int .u8 c] w fun e w' => e = .returned (.bool (hexB c)) ∧ w = w' := by
  go_enter Tryd.func33, Tryd.ntmps33
  go_wp2_with (go_at_call 19; refine (spec_IsDigit _ _).mono ?_; rintro e w' ⟨rfl, rfl⟩)
  all_goals (go_ret; refine ⟨ret_bool ?_, rfl⟩; first | rfl | (rw [Bool.eq_iff_iff]; simp [hexB, digB] at *; done) | (rw [Bool.eq_iff_iff]; simp [hexB, digB] at *; omega))
end Go.Proofs.YtigeaoijcjidbaaDoor
