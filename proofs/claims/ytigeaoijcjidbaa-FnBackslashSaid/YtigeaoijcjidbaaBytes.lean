/- The classes of bytes: each function of them returns what the plain class says, and leaves the world alone. -/
import Derived.Test.YtigeaoijcjidbaaPlain
import Derived.Test.YtigeaoijcjidbaaRows
import Derived.WalkSpells
import Derived.WalkLawsBesides
namespace Go.Proofs.Ytigeaoijcjidbaa
open Go.RowKit

theorem md_isURL (c : Int) (w : World) : Calls Try.prog 75 #[.int .u8 c] w fun e w' => e = .returned (.bool (urlB c)) ∧ w = w' := by
  go_enter Try.func75, Try.ntmps75
  go_wp2
  all_goals (go_ret; refine ⟨ret_bool ?_, rfl⟩; first | rfl | (rw [Bool.eq_iff_iff]; simp [urlB] at *; done) | (rw [Bool.eq_iff_iff]; simp [urlB] at *; omega))
theorem md_isLetter (c : Int) (w : World) : Calls Try.prog 80 #[.int .u8 c] w fun e w' => e = .returned (.bool (letB c)) ∧ w = w' := by
  go_enter Try.func80, Try.ntmps80
  go_wp2
  all_goals (go_ret; refine ⟨ret_bool ?_, rfl⟩; first | rfl | (rw [Bool.eq_iff_iff]; simp [letB, upB, loB] at *; done) | (rw [Bool.eq_iff_iff]; simp [letB, upB, loB] at *; omega))
theorem md_isDigit (c : Int) (w : World) : Calls Try.prog 81 #[.int .u8 c] w fun e w' => e = .returned (.bool (digB c)) ∧ w = w' := by
  go_enter Try.func81, Try.ntmps81
  go_wp2
  all_goals (go_ret; refine ⟨ret_bool ?_, rfl⟩; first | rfl | (rw [Bool.eq_iff_iff]; simp [digB] at *; done) | (rw [Bool.eq_iff_iff]; simp [digB] at *; omega))
theorem md_isHexDigit (c : Int) (w : World) : Calls Try.prog 82 #[.int .u8 c] w fun e w' => e = .returned (.bool (hexB c)) ∧ w = w' := by
  go_enter Try.func82, Try.ntmps82
  go_wp2
  all_goals (go_ret; refine ⟨ret_bool ?_, rfl⟩; first | rfl | (rw [Bool.eq_iff_iff]; simp [hexB, digB] at *; done) | (rw [Bool.eq_iff_iff]; simp [hexB, digB] at *; omega))
theorem md_isLetterDigit (c : Int) (w : World) : Calls Try.prog 83 #[.int .u8 c] w fun e w' => e = .returned (.bool (alnB c)) ∧ w = w' := by
  go_enter Try.func83, Try.ntmps83
  go_wp2
  all_goals (go_ret; refine ⟨ret_bool ?_, rfl⟩; first | rfl | (rw [Bool.eq_iff_iff]; simp [alnB, letB, upB, loB, digB] at *; done) | (rw [Bool.eq_iff_iff]; simp [alnB, letB, upB, loB, digB] at *; omega))
theorem md_isPunct (c : Int) (w : World) : Calls Try.prog 85 #[.int .u8 c] w fun e w' => e = .returned (.bool (punctB c)) ∧ w = w' := by
  go_enter Try.func85, Try.ntmps85
  go_wp2
  all_goals (go_ret; refine ⟨ret_bool ?_, rfl⟩; first | rfl | (rw [Bool.eq_iff_iff]; simp [punctB] at *; done) | (rw [Bool.eq_iff_iff]; simp [punctB] at *; omega))
theorem md_isTableSpace (c : Int) (w : World) : Calls Try.prog 106 #[.int .u8 c] w fun e w' => e = .returned (.bool (tabspB c)) ∧ w = w' := by
  go_enter Try.func106, Try.ntmps106
  go_wp2
  all_goals (go_ret; refine ⟨ret_bool ?_, rfl⟩; first | rfl | (rw [Bool.eq_iff_iff]; simp [tabspB] at *; done) | (rw [Bool.eq_iff_iff]; simp [tabspB] at *; omega))
theorem spec_IsLetter (c : Int) (w : World) : Calls Try.prog 25 #[.int .u8 c] w fun e w' => e = .returned (.bool (letB c)) ∧ w = w' := by
  go_enter Try.func25, Try.ntmps25
  go_wp2
  all_goals (go_ret; refine ⟨ret_bool ?_, rfl⟩; first | rfl | (rw [Bool.eq_iff_iff]; simp [letB, upB, loB] at *; done) | (rw [Bool.eq_iff_iff]; simp [letB, upB, loB] at *; omega))
theorem spec_IsDigit (c : Int) (w : World) : Calls Try.prog 26 #[.int .u8 c] w fun e w' => e = .returned (.bool (digB c)) ∧ w = w' := by
  go_enter Try.func26, Try.ntmps26
  go_wp2
  all_goals (go_ret; refine ⟨ret_bool ?_, rfl⟩; first | rfl | (rw [Bool.eq_iff_iff]; simp [digB] at *; done) | (rw [Bool.eq_iff_iff]; simp [digB] at *; omega))
theorem spec_IsPunct (c : Int) (w : World) : Calls Try.prog 34 #[.int .u8 c] w fun e w' => e = .returned (.bool (punctB c)) ∧ w = w' := by
  go_enter Try.func34, Try.ntmps34
  go_wp2
  all_goals (go_ret; refine ⟨ret_bool ?_, rfl⟩; first | rfl | (rw [Bool.eq_iff_iff]; simp [punctB] at *; done) | (rw [Bool.eq_iff_iff]; simp [punctB] at *; omega))
theorem spec_IsBlank (c : Int) (w : World) : Calls Try.prog 15 #[.int .u8 c] w fun e w' => e = .returned (.bool (blankB c)) ∧ w = w' := by
  go_enter Try.func15, Try.ntmps15
  go_wp2
  all_goals (go_ret; refine ⟨ret_bool ?_, rfl⟩; first | rfl | (rw [Bool.eq_iff_iff]; simp [blankB] at *; done) | (rw [Bool.eq_iff_iff]; simp [blankB] at *; omega))
theorem md_isLDH (c : Int) (w : World) : Calls Try.prog 84 #[.int .u8 c] w fun e w' => e = .returned (.bool (ldhB c)) ∧ w = w' := by
  go_enter Try.func84, Try.ntmps84
  go_wp2_with (go_at_call 83; refine (md_isLetterDigit _ _).mono ?_; rintro e w' ⟨rfl, rfl⟩)
  all_goals (go_ret; refine ⟨ret_bool ?_, rfl⟩; first | rfl | (rw [Bool.eq_iff_iff]; simp [ldhB, alnB, letB, upB, loB, digB] at *; done) | (rw [Bool.eq_iff_iff]; simp [ldhB, alnB, letB, upB, loB, digB] at *; omega))
theorem spec_IsHex (c : Int) (w : World) : Calls Try.prog 30 #[.int .u8 c] w fun e w' => e = .returned (.bool (hexB c)) ∧ w = w' := by
  go_enter Try.func30, Try.ntmps30
  go_wp2_with (go_at_call 26; refine (spec_IsDigit _ _).mono ?_; rintro e w' ⟨rfl, rfl⟩)
  all_goals (go_ret; refine ⟨ret_bool ?_, rfl⟩; first | rfl | (rw [Bool.eq_iff_iff]; simp [hexB, digB] at *; done) | (rw [Bool.eq_iff_iff]; simp [hexB, digB] at *; omega))
theorem md_ZZIsURL (c : Int) (w : World) : Calls Try.prog 48 #[.int .u8 c] w fun e w' => e = .returned (.bool (urlB c)) ∧ w = w' := by
  go_enter Try.func48, Try.ntmps48
  go_wp2_with (go_at_call 75; refine (md_isURL _ _).mono ?_; rintro e w' ⟨rfl, rfl⟩)
  all_goals (go_ret; exact ⟨rfl, rfl⟩)
theorem impl_IsURL (c : Int) (w : World) : Calls Try.prog 13 #[.int .u8 c] w fun e w' => e = .returned (.bool (urlB c)) ∧ w = w' := by
  go_enter Try.func13, Try.ntmps13
  go_wp2_with (go_at_call 48; refine (md_ZZIsURL _ _).mono ?_; rintro e w' ⟨rfl, rfl⟩)
  all_goals (go_ret; exact ⟨rfl, rfl⟩)
theorem md_ZZIsLetter (c : Int) (w : World) : Calls Try.prog 56 #[.int .u8 c] w fun e w' => e = .returned (.bool (letB c)) ∧ w = w' := by
  go_enter Try.func56, Try.ntmps56
  go_wp2_with (go_at_call 80; refine (md_isLetter _ _).mono ?_; rintro e w' ⟨rfl, rfl⟩)
  all_goals (go_ret; exact ⟨rfl, rfl⟩)
theorem impl_IsLetter (c : Int) (w : World) : Calls Try.prog 27 #[.int .u8 c] w fun e w' => e = .returned (.bool (letB c)) ∧ w = w' := by
  go_enter Try.func27, Try.ntmps27
  go_wp2_with (go_at_call 56; refine (md_ZZIsLetter _ _).mono ?_; rintro e w' ⟨rfl, rfl⟩)
  all_goals (go_ret; exact ⟨rfl, rfl⟩)
theorem md_ZZIsDigit (c : Int) (w : World) : Calls Try.prog 57 #[.int .u8 c] w fun e w' => e = .returned (.bool (digB c)) ∧ w = w' := by
  go_enter Try.func57, Try.ntmps57
  go_wp2_with (go_at_call 81; refine (md_isDigit _ _).mono ?_; rintro e w' ⟨rfl, rfl⟩)
  all_goals (go_ret; exact ⟨rfl, rfl⟩)
theorem impl_IsDigit (c : Int) (w : World) : Calls Try.prog 28 #[.int .u8 c] w fun e w' => e = .returned (.bool (digB c)) ∧ w = w' := by
  go_enter Try.func28, Try.ntmps28
  go_wp2_with (go_at_call 57; refine (md_ZZIsDigit _ _).mono ?_; rintro e w' ⟨rfl, rfl⟩)
  all_goals (go_ret; exact ⟨rfl, rfl⟩)
theorem md_ZZIsHexDigit (c : Int) (w : World) : Calls Try.prog 58 #[.int .u8 c] w fun e w' => e = .returned (.bool (hexB c)) ∧ w = w' := by
  go_enter Try.func58, Try.ntmps58
  go_wp2_with (go_at_call 82; refine (md_isHexDigit _ _).mono ?_; rintro e w' ⟨rfl, rfl⟩)
  all_goals (go_ret; exact ⟨rfl, rfl⟩)
theorem impl_IsHexDigit (c : Int) (w : World) : Calls Try.prog 29 #[.int .u8 c] w fun e w' => e = .returned (.bool (hexB c)) ∧ w = w' := by
  go_enter Try.func29, Try.ntmps29
  go_wp2_with (go_at_call 58; refine (md_ZZIsHexDigit _ _).mono ?_; rintro e w' ⟨rfl, rfl⟩)
  all_goals (go_ret; exact ⟨rfl, rfl⟩)
theorem md_ZZIsLetterDigit (c : Int) (w : World) : Calls Try.prog 59 #[.int .u8 c] w fun e w' => e = .returned (.bool (alnB c)) ∧ w = w' := by
  go_enter Try.func59, Try.ntmps59
  go_wp2_with (go_at_call 83; refine (md_isLetterDigit _ _).mono ?_; rintro e w' ⟨rfl, rfl⟩)
  all_goals (go_ret; exact ⟨rfl, rfl⟩)
theorem impl_IsLetterDigit (c : Int) (w : World) : Calls Try.prog 31 #[.int .u8 c] w fun e w' => e = .returned (.bool (alnB c)) ∧ w = w' := by
  go_enter Try.func31, Try.ntmps31
  go_wp2_with (go_at_call 59; refine (md_ZZIsLetterDigit _ _).mono ?_; rintro e w' ⟨rfl, rfl⟩)
  all_goals (go_ret; exact ⟨rfl, rfl⟩)
theorem md_ZZIsLDH (c : Int) (w : World) : Calls Try.prog 60 #[.int .u8 c] w fun e w' => e = .returned (.bool (ldhB c)) ∧ w = w' := by
  go_enter Try.func60, Try.ntmps60
  go_wp2_with (go_at_call 84; refine (md_isLDH _ _).mono ?_; rintro e w' ⟨rfl, rfl⟩)
  all_goals (go_ret; exact ⟨rfl, rfl⟩)
theorem impl_IsLDH (c : Int) (w : World) : Calls Try.prog 32 #[.int .u8 c] w fun e w' => e = .returned (.bool (ldhB c)) ∧ w = w' := by
  go_enter Try.func32, Try.ntmps32
  go_wp2_with (go_at_call 60; refine (md_ZZIsLDH _ _).mono ?_; rintro e w' ⟨rfl, rfl⟩)
  all_goals (go_ret; exact ⟨rfl, rfl⟩)
theorem md_ZZIsPunct (c : Int) (w : World) : Calls Try.prog 61 #[.int .u8 c] w fun e w' => e = .returned (.bool (punctB c)) ∧ w = w' := by
  go_enter Try.func61, Try.ntmps61
  go_wp2_with (go_at_call 85; refine (md_isPunct _ _).mono ?_; rintro e w' ⟨rfl, rfl⟩)
  all_goals (go_ret; exact ⟨rfl, rfl⟩)
theorem impl_IsPunct (c : Int) (w : World) : Calls Try.prog 33 #[.int .u8 c] w fun e w' => e = .returned (.bool (punctB c)) ∧ w = w' := by
  go_enter Try.func33, Try.ntmps33
  go_wp2_with (go_at_call 61; refine (md_ZZIsPunct _ _).mono ?_; rintro e w' ⟨rfl, rfl⟩)
  all_goals (go_ret; exact ⟨rfl, rfl⟩)
end Go.Proofs.Ytigeaoijcjidbaa
