/- The laws' word 'printable'. -/
import Derived.Test.YtpdpkggojlpklaaDoorBytes
import Derived.Test.YtpdpkggojlpklaaDoorScan
namespace Go.Proofs.YtpdpkggojlpklaaDoor
open Go.RowKit
theorem laws_printable (s : ByteArray) (most : Int) (w : World) (hs : s.size ≤ maxLen) : Calls Tryd.prog 5 #[.string s, .int .i64 most] w fun e w' => e = .returned (.bool (fitB prB s most)) ∧ w = w' := by
  unfold maxLen at hs
  by_cases hm : most < (s.size : Int)
  · go_enter Tryd.func5, Tryd.ntmps5
    go_wp2
    go_ret
    exact ⟨ret_bool (by unfold fitB; simp; omega), rfl⟩
  · go_enter Tryd.func5, Tryd.ntmps5
    go_wp2
    go_loop [12] (fun j => ∃ k : Nat, k ≤ s.size ∧ j = .int .i64 k ∧ Hid (allB prB (s.data.toList.take k) = true)) (fun j => s.size - (intOf j).toNat)
    case atStart => exact ⟨0, Nat.zero_le _, rfl, Lib.hid (allB_take_zero _ _)⟩
    case round =>
      obtain ⟨k, hk, rfl, HR⟩ := hrel
      go_wp2
      all_goals first
        | (go_ret; refine ⟨ret_bool ?_, rfl⟩; unfold fitB; first | (rw [allB_bad prB s k ‹_› (by simp [prB] at *; omega)]; simp; done) | (rw [allB_end prB s k (by omega) HR.out]; simp; omega))
        | (go_round
           case rel => exact ⟨k + 1, by omega, by go_num, Lib.hid (allB_take_succ prB s k ‹_› HR.out (by simp [prB] at *; omega))⟩
           case measure => simp [intOf]; omega)
end Go.Proofs.YtpdpkggojlpklaaDoor
