/- The package's trims: each returns the text without bytes of its class at the front, at the end, or at both. -/
import Derived.Test.YtpdpkggojlpklaaDoorBytes
import Derived.Test.YtpdpkggojlpklaaDoorStripPlain
import Derived.Deep.LoopGhost
import Derived.Deep.DeepCutAuto
namespace Go.Proofs.YtpdpkggojlpklaaDoor
open Go.RowKit
/-- a space or a tab -/
def stB (c : Int) : Bool := c == 32 || c == 9
set_option maxHeartbeats 1000000 in
theorem md_trimSpaceTabNewline (s : ByteArray) (w : World) (hs : s.size ≤ maxLen) : Calls Tryd.prog 36 #[.string s] w fun e w' => e = .returned (.string ⟨(stripE spaceB (stripF spaceB s.data.toList)).toArray⟩) ∧ w = w' := by
  unfold maxLen at hs
  go_enter Tryd.func36, Tryd.ntmps36
  go_wp2
  go_loopg [3] s.size (fun g j wx => ∃ k : Nat, k + g = s.size ∧ j = .int .i64 k ∧ Hid (scan spaceB s.data.toList k = scan spaceB s.data.toList 0) ∧ w = wx)
  case atStart => exact ⟨0, by omega, rfl, Lib.hid rfl, rfl⟩
  case round =>
    obtain ⟨k, hkg, rfl, HR, rfl⟩ := hrel
    go_upto_region 2 with (fail)
    go_cut [26] from 5 to 26 (fun v wx => v = .bool (atB spaceB s k) ∧ w = wx)
    case first =>
      go_wp2_with (fail)
      all_goals (go_meet; refine ⟨congrArg Value.bool ?_, rfl⟩; first | (simp [atB, spaceB, *]; done) | (simp_all [atB, spaceB]; done) | (rw [Bool.eq_iff_iff]; simp_all [atB, spaceB]; done) | (rw [Bool.eq_iff_iff]; simp_all [atB, spaceB]; omega))
    case rest =>
      obtain ⟨rfl, rfl⟩ := hcut
      cases hB : atB spaceB s k with
      | true =>
        have hlt := atB_lt hB
        go_wp2
        go_roundg (gk - 1)
        case measure => omega
        case rel => exact ⟨k + 1, by omega, by go_num, Lib.hid ((scan_yes hB).symm.trans HR.out), rfl⟩
      | false =>
        have HK := Lib.hid ((scan_no hB).symm.trans HR.out)
        go_upto_region 4 with (fail)
        go_cut [0] from 29 to 31 (fun v wx => ∃ x : ByteArray, v = .string x ∧ x.size ≤ s.size ∧ Hid (x.data.toList = stripF spaceB s.data.toList) ∧ w = wx)
        case first =>
          go_wp2
          go_meet
          exact ⟨_, rfl, by rw [ByteArray.size_extract]; omega, Lib.hid (by rw [extract_piece, HK.out, List.take_of_length_le (by simp), scan_drop]), rfl⟩
        case rest =>
          obtain ⟨x, rfl, hx, HX, rfl⟩ := hcut
          clear HR HK
          go_wp2
          go_loopg [4] x.size (fun g j wx => ∃ k : Nat, k = g ∧ 0 ≤ k ∧ k ≤ x.size ∧ j = .int .i64 k ∧ Hid (stripE spaceB ((x.data.toList.take k).drop 0) = stripE spaceB (x.data.toList.drop 0)) ∧ w = wx)
          case atStart => exact ⟨x.size, rfl, by omega, Nat.le_refl _, rfl, Lib.hid (by rw [List.take_of_length_le (by simp)]), rfl⟩
          case round =>
            obtain ⟨k, rfl, hik, hk, rfl, HR, rfl⟩ := hrel
            go_upto_region 6 with (fail)
            go_cut [56] from 34 to 56 (fun v wx => v = .bool (rB spaceB x 0 k) ∧ w = wx)
            case first =>
              go_wp2_with (fail)
              all_goals (go_meet; refine ⟨congrArg Value.bool ?_, rfl⟩; first | (simp [rB, spaceB, *]; done) | (simp_all [rB, spaceB]; done) | (rw [Bool.eq_iff_iff]; simp_all [rB, spaceB]; done) | (rw [Bool.eq_iff_iff]; simp_all [rB, spaceB]; omega))
            case rest =>
              obtain ⟨rfl, rfl⟩ := hcut
              cases hB : rB spaceB x 0 k with
              | true =>
                obtain ⟨hlt, he⟩ := rB_yes hB
                have HE := Lib.hid he; clear he
                go_wp2
                go_roundg (k - 1)
                case measure => omega
                case rel => exact ⟨k - 1, rfl, by omega, by omega, congrArg _ (by omega), Lib.hid (HE.out.symm.trans HR.out), rfl⟩
              | false =>
                have HK := Lib.hid ((rB_no hk hB).symm.trans HR.out)
                go_wp2
                go_ret
                exact ⟨ret_str (by rw [extract_piece, HK.out, ← HX.out]; rfl), rfl⟩
end Go.Proofs.YtpdpkggojlpklaaDoor
