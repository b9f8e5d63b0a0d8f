/- FnURL's walk: for every byte it returns true and leaves memory alone. -/
import Derived.Test.YtigeaoijcjidbaaBytes
namespace Go.Proofs.Ytigeaoijcjidbaa
open Go.RowKit
theorem walkFnURL (a0 : Int) (w : World) (_w0 : (Lit.int .u8 a0).wf = true) : Calls Try.prog 3 #[.int .u8 a0] w fun e w' => e = .returned (.bool true) ∧ Below w.heap.size w w' := by
  go_enter Try.func3, Try.ntmps3
  go_wp2_with (go_at_call 13; refine (impl_IsURL _ _).mono ?_; rintro e w' ⟨rfl, rfl⟩)
  all_goals (go_ret; refine ⟨ret_bool ?_, Below.refl _ _⟩; first | rfl | (simp [urlB] at *; done) | (simp_all [urlB]; done) | (simp [urlB] at *; rw [Bool.eq_iff_iff]; simp; omega))
end Go.Proofs.Ytigeaoijcjidbaa
