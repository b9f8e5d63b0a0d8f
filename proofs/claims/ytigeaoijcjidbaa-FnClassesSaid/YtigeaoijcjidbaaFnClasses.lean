/- FnClasses's walk: for every byte it returns true and leaves memory alone. -/
import Derived.Test.YtigeaoijcjidbaaBytes
namespace Go.Proofs.Ytigeaoijcjidbaa
open Go.RowKit
theorem walkFnClasses (a0 : Int) (w : World) (_w0 : (Lit.int .u8 a0).wf = true) : Calls Try.prog 7 #[.int .u8 a0] w fun e w' => e = .returned (.bool true) ∧ Below w.heap.size w w' := by
  have e1 : (alnB a0 == (letB a0 || digB a0)) = true := by simp [alnB]
  have e2 : (ldhB a0 == (letB a0 || digB a0 || a0 == 45)) = true := by simp [ldhB, alnB]
  go_enter Try.func7, Try.ntmps7
  go_wp2_with (first
    | (go_at_call 27; refine (impl_IsLetter _ _).mono ?_; rintro e w' ⟨rfl, rfl⟩)
    | (go_at_call 28; refine (impl_IsDigit _ _).mono ?_; rintro e w' ⟨rfl, rfl⟩)
    | (go_at_call 29; refine (impl_IsHexDigit _ _).mono ?_; rintro e w' ⟨rfl, rfl⟩)
    | (go_at_call 31; refine (impl_IsLetterDigit _ _).mono ?_; rintro e w' ⟨rfl, rfl⟩)
    | (go_at_call 32; refine (impl_IsLDH _ _).mono ?_; rintro e w' ⟨rfl, rfl⟩)
    | (go_at_call 33; refine (impl_IsPunct _ _).mono ?_; rintro e w' ⟨rfl, rfl⟩)
    | (go_at_call 25; refine (spec_IsLetter _ _).mono ?_; rintro e w' ⟨rfl, rfl⟩)
    | (go_at_call 26; refine (spec_IsDigit _ _).mono ?_; rintro e w' ⟨rfl, rfl⟩)
    | (go_at_call 30; refine (spec_IsHex _ _).mono ?_; rintro e w' ⟨rfl, rfl⟩)
    | (go_at_call 34; refine (spec_IsPunct _ _).mono ?_; rintro e w' ⟨rfl, rfl⟩))
  all_goals (go_ret; refine ⟨ret_bool ?_, Below.refl _ _⟩; first | rfl | (simp [alnB, ldhB] at *; done) | (simp_all [alnB, ldhB]; done))
end Go.Proofs.Ytigeaoijcjidbaa
