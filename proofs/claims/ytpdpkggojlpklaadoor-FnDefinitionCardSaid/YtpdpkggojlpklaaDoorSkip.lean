/- The places behind white space: the package's skipSpace, the laws' white. -/
import Derived.Test.YtpdpkggojlpklaaDoorBytes
import Derived.Test.YtpdpkggojlpklaaDoorScan
import Derived.Deep.LoopGhost
import Derived.Deep.DeepCutAuto
import Derived.Deep.Light
namespace Go.Proofs.YtpdpkggojlpklaaDoor
open Go.RowKit
theorem lin_blank {c : Int} (h : linB c = true) : blankB c = spaceB c := by
  simp only [linB, Bool.or_eq_true, Bool.and_eq_true, beq_iff_eq, decide_eq_true_eq] at h
  rw [Bool.eq_iff_iff]; simp [blankB, spaceB]; omega
set_option maxHeartbeats 400000 in
theorem md_skipSpace (s : ByteArray) (i : Nat) (w : World) (hs : s.size ≤ maxLen) (hi : i ≤ s.size) : Calls Tryd.prog 29 #[.string s, .int .i64 i] w fun e w' => e = .returned (.int .i64 (scan spaceB s.data.toList i)) ∧ w = w' := by
  unfold maxLen at hs
  go_enter Tryd.func29, Tryd.ntmps29
  go_wp2_with (fail)
  go_loopg [1] (s.size - i) (fun g j wx => ∃ k : Nat, i ≤ k ∧ k + g = s.size ∧ j = .int .i64 k ∧ Hid (scan spaceB s.data.toList k = scan spaceB s.data.toList i) ∧ w = wx)
  case atStart => exact ⟨i, by omega, by omega, rfl, Lib.hid rfl, rfl⟩
  case round =>
    obtain ⟨k, hk, hkg, rfl, HR, rfl⟩ := hrel
    go_upto_region 1 with (fail)
    go_cut [26] from 5 to 26 (fun v wx => v = .bool (atB spaceB s k) ∧ w = wx)
    case first =>
      go_wp2_with (fail)
      all_goals (go_meet; refine ⟨congrArg Value.bool ?_, rfl⟩; go_light; first | (simp [atB, *]; done) | (simp [atB, spaceB, *]; done) | (simp_all [atB, spaceB]; done))
    case rest =>
      obtain ⟨rfl, rfl⟩ := hcut
      cases hB : atB spaceB s k with
      | true =>
        have hlt := atB_lt hB
        go_wp2
        go_roundg (gk - 1)
        case measure => omega
        case rel => exact ⟨k + 1, by omega, by omega, by go_num, Lib.hid ((scan_yes hB).symm.trans HR.out), rfl⟩
      | false =>
        have HK := Lib.hid ((scan_no hB).symm.trans HR.out)
        go_wp2
        go_ret
        exact ⟨ret_int (by rw [← HK.out]), rfl⟩
end Go.Proofs.YtpdpkggojlpklaaDoor
