/- The laws' own words on texts: lined, printable, inside, white. -/
import Derived.Test.YtpdpkggojlpklaaGreatBytes
import Derived.Test.YtpdpkggojlpklaaGreatScan
namespace Go.Proofs.YtpdpkggojlpklaaGreat
open Go.RowKit

theorem laws_lined (s : ByteArray) (most : Int) (w : World) (hs : s.size ≤ maxLen) : Calls Tryz.prog 4 #[.string s, .int .i64 most] w fun e w' => e = .returned (.bool (fitB linB s most)) ∧ w = w' := by
  unfold maxLen at hs
  by_cases hm : most < (s.size : Int)
  · go_enter Tryz.func4, Tryz.ntmps4
    go_wp2
    go_ret
    exact ⟨ret_bool (by unfold fitB; simp; omega), rfl⟩
  · go_enter Tryz.func4, Tryz.ntmps4
    go_wp2
    go_loop [12] (fun j => ∃ k : Nat, k ≤ s.size ∧ j = .int .i64 k ∧ Hid (allB linB (s.data.toList.take k) = true)) (fun j => s.size - (intOf j).toNat)
    case atStart => exact ⟨0, Nat.zero_le _, rfl, Lib.hid (allB_take_zero _ _)⟩
    case round =>
      obtain ⟨k, hk, rfl, HR⟩ := hrel
      go_wp2
      all_goals first
        | (go_ret; refine ⟨ret_bool ?_, rfl⟩; unfold fitB; first | (rw [allB_bad linB s k ‹_› (by simp [linB] at *; omega)]; simp; done) | (rw [allB_end linB s k (by omega) HR.out]; simp; omega))
        | (go_round
           case rel => exact ⟨k + 1, by omega, by go_num, Lib.hid (allB_take_succ linB s k ‹_› HR.out (by simp [linB] at *; omega))⟩
           case measure => simp [intOf]; omega)
/-- a place in a text of printable bytes and line feeds, so many at most -/
def insideB (s : ByteArray) (i most : Int) : Bool := decide (0 ≤ i) && decide (i ≤ (s.size : Int)) && fitB linB s most
theorem insideB_iff {s : ByteArray} {i most : Int} (h : insideB s i most = true) : 0 ≤ i ∧ i ≤ (s.size : Int) ∧ (s.size : Int) ≤ most ∧ allB linB s.data.toList = true := by
  simp only [insideB, fitB, Bool.and_eq_true, decide_eq_true_eq] at h; exact ⟨h.1.1, h.1.2, h.2.1, h.2.2⟩
end Go.Proofs.YtpdpkggojlpklaaGreat
