/- The package's trims: each returns the text without bytes of its class at the front, at the end, or at both. -/
import Derived.Test.YtigeaoijcjidbaaBytes
import Derived.Test.YtigeaoijcjidbaaStripPlain
import Derived.Deep.LoopGhost
import Derived.Deep.DeepCutAuto
namespace Go.Proofs.Ytigeaoijcjidbaa
open Go.RowKit
/-- a space or a tab -/
def stB (c : Int) : Bool := c == 32 || c == 9
set_option maxHeartbeats 1000000 in
theorem md_trimLeftSpaceTab (s : ByteArray) (w : World) (hs : s.size ≤ maxLen) : Calls Try.prog 91 #[.string s] w fun e w' => e = .returned (.string ⟨(stripF stB s.data.toList).toArray⟩) ∧ w = w' := by
  unfold maxLen at hs
  go_enter Try.func91, Try.ntmps91
  go_wp2
  go_loopg [3] s.size (fun g j wx => ∃ k : Nat, k + g = s.size ∧ j = .int .i64 k ∧ Hid (scan stB s.data.toList k = scan stB s.data.toList 0) ∧ w = wx)
  case atStart => exact ⟨0, by omega, rfl, Lib.hid rfl, rfl⟩
  case round =>
    obtain ⟨k, hkg, rfl, HR, rfl⟩ := hrel
    go_upto_region 2 with (fail)
    go_cut [19] from 4 to 19 (fun v wx => v = .bool (atB stB s k) ∧ w = wx)
    case first =>
      go_wp2_with (fail)
      all_goals (go_meet; refine ⟨congrArg Value.bool ?_, rfl⟩; first | (simp [atB, stB, *]; done) | (simp_all [atB, stB]; done) | (rw [Bool.eq_iff_iff]; simp_all [atB, stB]; done) | (rw [Bool.eq_iff_iff]; simp_all [atB, stB]; omega))
    case rest =>
      obtain ⟨rfl, rfl⟩ := hcut
      cases hB : atB stB s k with
      | true =>
        have hlt := atB_lt hB
        go_wp2
        go_roundg (gk - 1)
        case measure => omega
        case rel => exact ⟨k + 1, by omega, by go_num, Lib.hid ((scan_yes hB).symm.trans HR.out), rfl⟩
      | false =>
        have HK := Lib.hid ((scan_no hB).symm.trans HR.out)
        go_wp2
        go_ret
        exact ⟨ret_str (by rw [extract_piece, HK.out, List.take_of_length_le (by simp), scan_drop]), rfl⟩
set_option maxHeartbeats 1000000 in
theorem md_trimRightSpaceTab (s : ByteArray) (w : World) (hs : s.size ≤ maxLen) : Calls Try.prog 92 #[.string s] w fun e w' => e = .returned (.string ⟨(stripE stB s.data.toList).toArray⟩) ∧ w = w' := by
  unfold maxLen at hs
  go_enter Try.func92, Try.ntmps92
  go_wp2
  go_loopg [3] s.size (fun g j wx => ∃ k : Nat, k = g ∧ 0 ≤ k ∧ k ≤ s.size ∧ j = .int .i64 k ∧ Hid (stripE stB ((s.data.toList.take k).drop 0) = stripE stB (s.data.toList.drop 0)) ∧ w = wx)
  case atStart => exact ⟨s.size, rfl, by omega, Nat.le_refl _, rfl, Lib.hid (by rw [List.take_of_length_le (by simp)]), rfl⟩
  case round =>
    obtain ⟨k, rfl, hik, hk, rfl, HR, rfl⟩ := hrel
    go_upto_region 2 with (fail)
    go_cut [21] from 6 to 21 (fun v wx => v = .bool (rB stB s 0 k) ∧ w = wx)
    case first =>
      go_wp2_with (fail)
      all_goals (go_meet; refine ⟨congrArg Value.bool ?_, rfl⟩; first | (simp [rB, stB, *]; done) | (simp_all [rB, stB]; done) | (rw [Bool.eq_iff_iff]; simp_all [rB, stB]; done) | (rw [Bool.eq_iff_iff]; simp_all [rB, stB]; omega))
    case rest =>
      obtain ⟨rfl, rfl⟩ := hcut
      cases hB : rB stB s 0 k with
      | true =>
        obtain ⟨hlt, he⟩ := rB_yes hB
        have HE := Lib.hid he; clear he
        go_wp2
        go_roundg (k - 1)
        case measure => omega
        case rel => exact ⟨k - 1, rfl, by omega, by omega, congrArg _ (by omega), Lib.hid (HE.out.symm.trans HR.out), rfl⟩
      | false =>
        have HK := Lib.hid ((rB_no hk hB).symm.trans HR.out)
        go_wp2
        go_ret
        exact ⟨ret_str (by rw [extract_piece, HK.out]; rfl), rfl⟩
set_option maxHeartbeats 1000000 in
theorem md_trimSpaceTab (s : ByteArray) (w : World) (hs : s.size ≤ maxLen) : Calls Try.prog 93 #[.string s] w fun e w' => e = .returned (.string ⟨(stripE stB (stripF stB s.data.toList)).toArray⟩) ∧ w = w' := by
  unfold maxLen at hs
  go_enter Try.func93, Try.ntmps93
  go_wp2
  go_loopg [3] s.size (fun g j wx => ∃ k : Nat, k + g = s.size ∧ j = .int .i64 k ∧ Hid (scan stB s.data.toList k = scan stB s.data.toList 0) ∧ w = wx)
  case atStart => exact ⟨0, by omega, rfl, Lib.hid rfl, rfl⟩
  case round =>
    obtain ⟨k, hkg, rfl, HR, rfl⟩ := hrel
    go_upto_region 2 with (fail)
    go_cut [20] from 5 to 20 (fun v wx => v = .bool (atB stB s k) ∧ w = wx)
    case first =>
      go_wp2_with (fail)
      all_goals (go_meet; refine ⟨congrArg Value.bool ?_, rfl⟩; first | (simp [atB, stB, *]; done) | (simp_all [atB, stB]; done) | (rw [Bool.eq_iff_iff]; simp_all [atB, stB]; done) | (rw [Bool.eq_iff_iff]; simp_all [atB, stB]; omega))
    case rest =>
      obtain ⟨rfl, rfl⟩ := hcut
      cases hB : atB stB s k with
      | true =>
        have hlt := atB_lt hB
        go_wp2
        go_roundg (gk - 1)
        case measure => omega
        case rel => exact ⟨k + 1, by omega, by go_num, Lib.hid ((scan_yes hB).symm.trans HR.out), rfl⟩
      | false =>
        have HK := Lib.hid ((scan_no hB).symm.trans HR.out)
        go_upto_region 4 with (fail)
        go_cut [0] from 23 to 25 (fun v wx => ∃ x : ByteArray, v = .string x ∧ x.size ≤ s.size ∧ Hid (x.data.toList = stripF stB s.data.toList) ∧ w = wx)
        case first =>
          go_wp2
          go_meet
          exact ⟨_, rfl, by rw [ByteArray.size_extract]; omega, Lib.hid (by rw [extract_piece, HK.out, List.take_of_length_le (by simp), scan_drop]), rfl⟩
        case rest =>
          obtain ⟨x, rfl, hx, HX, rfl⟩ := hcut
          clear HR HK
          go_wp2
          go_loopg [4] x.size (fun g j wx => ∃ k : Nat, k = g ∧ 0 ≤ k ∧ k ≤ x.size ∧ j = .int .i64 k ∧ Hid (stripE stB ((x.data.toList.take k).drop 0) = stripE stB (x.data.toList.drop 0)) ∧ w = wx)
          case atStart => exact ⟨x.size, rfl, by omega, Nat.le_refl _, rfl, Lib.hid (by rw [List.take_of_length_le (by simp)]), rfl⟩
          case round =>
            obtain ⟨k, rfl, hik, hk, rfl, HR, rfl⟩ := hrel
            go_upto_region 6 with (fail)
            go_cut [43] from 28 to 43 (fun v wx => v = .bool (rB stB x 0 k) ∧ w = wx)
            case first =>
              go_wp2_with (fail)
              all_goals (go_meet; refine ⟨congrArg Value.bool ?_, rfl⟩; first | (simp [rB, stB, *]; done) | (simp_all [rB, stB]; done) | (rw [Bool.eq_iff_iff]; simp_all [rB, stB]; done) | (rw [Bool.eq_iff_iff]; simp_all [rB, stB]; omega))
            case rest =>
              obtain ⟨rfl, rfl⟩ := hcut
              cases hB : rB stB x 0 k with
              | true =>
                obtain ⟨hlt, he⟩ := rB_yes hB
                have HE := Lib.hid he; clear he
                go_wp2
                go_roundg (k - 1)
                case measure => omega
                case rel => exact ⟨k - 1, rfl, by omega, by omega, congrArg _ (by omega), Lib.hid (HE.out.symm.trans HR.out), rfl⟩
              | false =>
                have HK := Lib.hid ((rB_no hk hB).symm.trans HR.out)
                go_wp2
                go_ret
                exact ⟨ret_str (by rw [extract_piece, HK.out, ← HX.out]; rfl), rfl⟩
set_option maxHeartbeats 1000000 in
theorem md_trimSpace (s : ByteArray) (w : World) (hs : s.size ≤ maxLen) : Calls Try.prog 95 #[.string s] w fun e w' => e = .returned (.string ⟨(stripE stB (stripF stB s.data.toList)).toArray⟩) ∧ w = w' := by
  unfold maxLen at hs
  go_enter Try.func95, Try.ntmps95
  go_wp2
  go_loopg [3] s.size (fun g j wx => ∃ k : Nat, k + g = s.size ∧ j = .int .i64 k ∧ Hid (scan stB s.data.toList k = scan stB s.data.toList 0) ∧ w = wx)
  case atStart => exact ⟨0, by omega, rfl, Lib.hid rfl, rfl⟩
  case round =>
    obtain ⟨k, hkg, rfl, HR, rfl⟩ := hrel
    go_upto_region 2 with (fail)
    go_cut [20] from 5 to 20 (fun v wx => v = .bool (atB stB s k) ∧ w = wx)
    case first =>
      go_wp2_with (fail)
      all_goals (go_meet; refine ⟨congrArg Value.bool ?_, rfl⟩; first | (simp [atB, stB, *]; done) | (simp_all [atB, stB]; done) | (rw [Bool.eq_iff_iff]; simp_all [atB, stB]; done) | (rw [Bool.eq_iff_iff]; simp_all [atB, stB]; omega))
    case rest =>
      obtain ⟨rfl, rfl⟩ := hcut
      cases hB : atB stB s k with
      | true =>
        have hlt := atB_lt hB
        go_wp2
        go_roundg (gk - 1)
        case measure => omega
        case rel => exact ⟨k + 1, by omega, by go_num, Lib.hid ((scan_yes hB).symm.trans HR.out), rfl⟩
      | false =>
        have HK := Lib.hid ((scan_no hB).symm.trans HR.out)
        go_upto_region 4 with (fail)
        go_cut [0] from 23 to 25 (fun v wx => ∃ x : ByteArray, v = .string x ∧ x.size ≤ s.size ∧ Hid (x.data.toList = stripF stB s.data.toList) ∧ w = wx)
        case first =>
          go_wp2
          go_meet
          exact ⟨_, rfl, by rw [ByteArray.size_extract]; omega, Lib.hid (by rw [extract_piece, HK.out, List.take_of_length_le (by simp), scan_drop]), rfl⟩
        case rest =>
          obtain ⟨x, rfl, hx, HX, rfl⟩ := hcut
          clear HR HK
          go_wp2
          go_loopg [4] x.size (fun g j wx => ∃ k : Nat, k = g ∧ 0 ≤ k ∧ k ≤ x.size ∧ j = .int .i64 k ∧ Hid (stripE stB ((x.data.toList.take k).drop 0) = stripE stB (x.data.toList.drop 0)) ∧ w = wx)
          case atStart => exact ⟨x.size, rfl, by omega, Nat.le_refl _, rfl, Lib.hid (by rw [List.take_of_length_le (by simp)]), rfl⟩
          case round =>
            obtain ⟨k, rfl, hik, hk, rfl, HR, rfl⟩ := hrel
            go_upto_region 6 with (fail)
            go_cut [43] from 28 to 43 (fun v wx => v = .bool (rB stB x 0 k) ∧ w = wx)
            case first =>
              go_wp2_with (fail)
              all_goals (go_meet; refine ⟨congrArg Value.bool ?_, rfl⟩; first | (simp [rB, stB, *]; done) | (simp_all [rB, stB]; done) | (rw [Bool.eq_iff_iff]; simp_all [rB, stB]; done) | (rw [Bool.eq_iff_iff]; simp_all [rB, stB]; omega))
            case rest =>
              obtain ⟨rfl, rfl⟩ := hcut
              cases hB : rB stB x 0 k with
              | true =>
                obtain ⟨hlt, he⟩ := rB_yes hB
                have HE := Lib.hid he; clear he
                go_wp2
                go_roundg (k - 1)
                case measure => omega
                case rel => exact ⟨k - 1, rfl, by omega, by omega, congrArg _ (by omega), Lib.hid (HE.out.symm.trans HR.out), rfl⟩
              | false =>
                have HK := Lib.hid ((rB_no hk hB).symm.trans HR.out)
                go_wp2
                go_ret
                exact ⟨ret_str (by rw [extract_piece, HK.out, ← HX.out]; rfl), rfl⟩
set_option maxHeartbeats 1000000 in
theorem md_trimSpaceTabNewline (s : ByteArray) (w : World) (hs : s.size ≤ maxLen) : Calls Try.prog 94 #[.string s] w fun e w' => e = .returned (.string ⟨(stripE spaceB (stripF spaceB s.data.toList)).toArray⟩) ∧ w = w' := by
  unfold maxLen at hs
  go_enter Try.func94, Try.ntmps94
  go_wp2
  go_loopg [3] s.size (fun g j wx => ∃ k : Nat, k + g = s.size ∧ j = .int .i64 k ∧ Hid (scan spaceB s.data.toList k = scan spaceB s.data.toList 0) ∧ w = wx)
  case atStart => exact ⟨0, by omega, rfl, Lib.hid rfl, rfl⟩
  case round =>
    obtain ⟨k, hkg, rfl, HR, rfl⟩ := hrel
    go_upto_region 2 with (fail)
    go_cut [26] from 5 to 26 (fun v wx => v = .bool (atB spaceB s k) ∧ w = wx)
    case first =>
      go_wp2_with (fail)
      all_goals (go_meet; refine ⟨congrArg Value.bool ?_, rfl⟩; first | (simp [atB, spaceB, *]; done) | (simp_all [atB, spaceB]; done) | (rw [Bool.eq_iff_iff]; simp_all [atB, spaceB]; done) | (rw [Bool.eq_iff_iff]; simp_all [atB, spaceB]; omega))
    case rest =>
      obtain ⟨rfl, rfl⟩ := hcut
      cases hB : atB spaceB s k with
      | true =>
        have hlt := atB_lt hB
        go_wp2
        go_roundg (gk - 1)
        case measure => omega
        case rel => exact ⟨k + 1, by omega, by go_num, Lib.hid ((scan_yes hB).symm.trans HR.out), rfl⟩
      | false =>
        have HK := Lib.hid ((scan_no hB).symm.trans HR.out)
        go_upto_region 4 with (fail)
        go_cut [0] from 29 to 31 (fun v wx => ∃ x : ByteArray, v = .string x ∧ x.size ≤ s.size ∧ Hid (x.data.toList = stripF spaceB s.data.toList) ∧ w = wx)
        case first =>
          go_wp2
          go_meet
          exact ⟨_, rfl, by rw [ByteArray.size_extract]; omega, Lib.hid (by rw [extract_piece, HK.out, List.take_of_length_le (by simp), scan_drop]), rfl⟩
        case rest =>
          obtain ⟨x, rfl, hx, HX, rfl⟩ := hcut
          clear HR HK
          go_wp2
          go_loopg [4] x.size (fun g j wx => ∃ k : Nat, k = g ∧ 0 ≤ k ∧ k ≤ x.size ∧ j = .int .i64 k ∧ Hid (stripE spaceB ((x.data.toList.take k).drop 0) = stripE spaceB (x.data.toList.drop 0)) ∧ w = wx)
          case atStart => exact ⟨x.size, rfl, by omega, Nat.le_refl _, rfl, Lib.hid (by rw [List.take_of_length_le (by simp)]), rfl⟩
          case round =>
            obtain ⟨k, rfl, hik, hk, rfl, HR, rfl⟩ := hrel
            go_upto_region 6 with (fail)
            go_cut [56] from 34 to 56 (fun v wx => v = .bool (rB spaceB x 0 k) ∧ w = wx)
            case first =>
              go_wp2_with (fail)
              all_goals (go_meet; refine ⟨congrArg Value.bool ?_, rfl⟩; first | (simp [rB, spaceB, *]; done) | (simp_all [rB, spaceB]; done) | (rw [Bool.eq_iff_iff]; simp_all [rB, spaceB]; done) | (rw [Bool.eq_iff_iff]; simp_all [rB, spaceB]; omega))
            case rest =>
              obtain ⟨rfl, rfl⟩ := hcut
              cases hB : rB spaceB x 0 k with
              | true =>
                obtain ⟨hlt, he⟩ := rB_yes hB
                have HE := Lib.hid he; clear he
                go_wp2
                go_roundg (k - 1)
                case measure => omega
                case rel => exact ⟨k - 1, rfl, by omega, by omega, congrArg _ (by omega), Lib.hid (HE.out.symm.trans HR.out), rfl⟩
              | false =>
                have HK := Lib.hid ((rB_no hk hB).symm.trans HR.out)
                go_wp2
                go_ret
                exact ⟨ret_str (by rw [extract_piece, HK.out, ← HX.out]; rfl), rfl⟩
set_option maxHeartbeats 1000000 in
theorem md_tableTrimSpace (s : ByteArray) (w : World) (hs : s.size ≤ maxLen) : Calls Try.prog 98 #[.string s] w fun e w' => e = .returned (.string ⟨(stripE tabspB (stripF tabspB s.data.toList)).toArray⟩) ∧ w = w' := by
  unfold maxLen at hs
  go_enter Try.func98, Try.ntmps98
  go_wp2
  go_loopg [3] s.size (fun g j wx => ∃ k : Nat, k + g = s.size ∧ j = .int .i64 k ∧ Hid (scan tabspB s.data.toList k = scan tabspB s.data.toList 0) ∧ w = wx)
  case atStart => exact ⟨0, by omega, rfl, Lib.hid rfl, rfl⟩
  case round =>
    obtain ⟨k, hkg, rfl, HR, rfl⟩ := hrel
    go_upto_region 2 with (fail)
    go_cut [14] from 5 to 14 (fun v wx => v = .bool (atB tabspB s k) ∧ w = wx)
    case first =>
      go_wp2_with (go_at_call 106; refine (md_isTableSpace _ _).mono ?_; rintro e w' ⟨rfl, rfl⟩)
      all_goals (go_meet; refine ⟨congrArg Value.bool ?_, rfl⟩; first | (simp [atB, tabspB, *]; done) | (simp_all [atB, tabspB]; done) | (rw [Bool.eq_iff_iff]; simp_all [atB, tabspB]; done) | (rw [Bool.eq_iff_iff]; simp_all [atB, tabspB]; omega))
    case rest =>
      obtain ⟨rfl, rfl⟩ := hcut
      cases hB : atB tabspB s k with
      | true =>
        have hlt := atB_lt hB
        go_wp2
        go_roundg (gk - 1)
        case measure => omega
        case rel => exact ⟨k + 1, by omega, by go_num, Lib.hid ((scan_yes hB).symm.trans HR.out), rfl⟩
      | false =>
        have HK := Lib.hid ((scan_no hB).symm.trans HR.out)
        have hki : k ≤ s.size := by omega
        clear HR
        have HI := HK; clear HK
        obtain ⟨i, hi⟩ : ∃ i, i = k := ⟨k, rfl⟩
        subst hi
        go_wp2
        go_loopg [4] s.size (fun g j wx => ∃ k : Nat, k = g ∧ i ≤ k ∧ k ≤ s.size ∧ j = .int .i64 k ∧ Hid (stripE tabspB ((s.data.toList.take k).drop i) = stripE tabspB (s.data.toList.drop i)) ∧ w = wx)
        case atStart => exact ⟨s.size, rfl, by omega, Nat.le_refl _, rfl, Lib.hid (by rw [List.take_of_length_le (by simp)]), rfl⟩
        case round =>
          obtain ⟨k, rfl, hik, hk, rfl, HR, rfl⟩ := hrel
          go_upto_region 5 with (fail)
          go_cut [28] from 19 to 28 (fun v wx => v = .bool (rB tabspB s i k) ∧ w = wx)
          case first =>
            go_wp2_with (go_at_call 106; refine (md_isTableSpace _ _).mono ?_; rintro e w' ⟨rfl, rfl⟩)
            all_goals (go_meet; refine ⟨congrArg Value.bool ?_, rfl⟩; first | (simp [rB, tabspB, *]; done) | (simp_all [rB, tabspB]; done) | (rw [Bool.eq_iff_iff]; simp_all [rB, tabspB]; done) | (rw [Bool.eq_iff_iff]; simp_all [rB, tabspB]; omega))
          case rest =>
            obtain ⟨rfl, rfl⟩ := hcut
            cases hB : rB tabspB s i k with
            | true =>
              obtain ⟨hlt, he⟩ := rB_yes hB
              have HE := Lib.hid he; clear he
              go_wp2
              go_roundg (k - 1)
              case measure => omega
              case rel => exact ⟨k - 1, rfl, by omega, by omega, congrArg _ (by omega), Lib.hid (HE.out.symm.trans HR.out), rfl⟩
            | false =>
              have HK := Lib.hid ((rB_no hk hB).symm.trans HR.out)
              go_wp2
              go_ret
              exact ⟨ret_str (by rw [extract_piece, HK.out, HI.out, scan_drop]), rfl⟩
theorem md_ZZTrimLeftSpaceTab (s : ByteArray) (w : World) (hs : s.size ≤ maxLen) : Calls Try.prog 68 #[.string s] w fun e w' => e = .returned (.string ⟨(stripF stB s.data.toList).toArray⟩) ∧ w = w' := by
  go_enter Try.func68, Try.ntmps68
  go_wp2_with (go_at_call 91; refine (md_trimLeftSpaceTab _ _ hs).mono ?_; rintro e w' ⟨rfl, rfl⟩)
  go_ret
  exact ⟨rfl, rfl⟩
theorem impl_TrimLeftSpaceTab (s : ByteArray) (w : World) (hs : s.size ≤ maxLen) : Calls Try.prog 42 #[.string s] w fun e w' => e = .returned (.string ⟨(stripF stB s.data.toList).toArray⟩) ∧ w = w' := by
  go_enter Try.func42, Try.ntmps42
  go_wp2_with (go_at_call 68; refine (md_ZZTrimLeftSpaceTab _ _ hs).mono ?_; rintro e w' ⟨rfl, rfl⟩)
  go_ret
  exact ⟨rfl, rfl⟩
theorem md_ZZTrimRightSpaceTab (s : ByteArray) (w : World) (hs : s.size ≤ maxLen) : Calls Try.prog 69 #[.string s] w fun e w' => e = .returned (.string ⟨(stripE stB s.data.toList).toArray⟩) ∧ w = w' := by
  go_enter Try.func69, Try.ntmps69
  go_wp2_with (go_at_call 92; refine (md_trimRightSpaceTab _ _ hs).mono ?_; rintro e w' ⟨rfl, rfl⟩)
  go_ret
  exact ⟨rfl, rfl⟩
theorem impl_TrimRightSpaceTab (s : ByteArray) (w : World) (hs : s.size ≤ maxLen) : Calls Try.prog 43 #[.string s] w fun e w' => e = .returned (.string ⟨(stripE stB s.data.toList).toArray⟩) ∧ w = w' := by
  go_enter Try.func43, Try.ntmps43
  go_wp2_with (go_at_call 69; refine (md_ZZTrimRightSpaceTab _ _ hs).mono ?_; rintro e w' ⟨rfl, rfl⟩)
  go_ret
  exact ⟨rfl, rfl⟩
theorem md_ZZTrimSpaceTab (s : ByteArray) (w : World) (hs : s.size ≤ maxLen) : Calls Try.prog 70 #[.string s] w fun e w' => e = .returned (.string ⟨(stripE stB (stripF stB s.data.toList)).toArray⟩) ∧ w = w' := by
  go_enter Try.func70, Try.ntmps70
  go_wp2_with (go_at_call 93; refine (md_trimSpaceTab _ _ hs).mono ?_; rintro e w' ⟨rfl, rfl⟩)
  go_ret
  exact ⟨rfl, rfl⟩
theorem impl_TrimSpaceTab (s : ByteArray) (w : World) (hs : s.size ≤ maxLen) : Calls Try.prog 44 #[.string s] w fun e w' => e = .returned (.string ⟨(stripE stB (stripF stB s.data.toList)).toArray⟩) ∧ w = w' := by
  go_enter Try.func44, Try.ntmps44
  go_wp2_with (go_at_call 70; refine (md_ZZTrimSpaceTab _ _ hs).mono ?_; rintro e w' ⟨rfl, rfl⟩)
  go_ret
  exact ⟨rfl, rfl⟩
theorem md_ZZTrimSpace (s : ByteArray) (w : World) (hs : s.size ≤ maxLen) : Calls Try.prog 72 #[.string s] w fun e w' => e = .returned (.string ⟨(stripE stB (stripF stB s.data.toList)).toArray⟩) ∧ w = w' := by
  go_enter Try.func72, Try.ntmps72
  go_wp2_with (go_at_call 95; refine (md_trimSpace _ _ hs).mono ?_; rintro e w' ⟨rfl, rfl⟩)
  go_ret
  exact ⟨rfl, rfl⟩
theorem impl_TrimSpace (s : ByteArray) (w : World) (hs : s.size ≤ maxLen) : Calls Try.prog 46 #[.string s] w fun e w' => e = .returned (.string ⟨(stripE stB (stripF stB s.data.toList)).toArray⟩) ∧ w = w' := by
  go_enter Try.func46, Try.ntmps46
  go_wp2_with (go_at_call 72; refine (md_ZZTrimSpace _ _ hs).mono ?_; rintro e w' ⟨rfl, rfl⟩)
  go_ret
  exact ⟨rfl, rfl⟩
theorem md_ZZTrimSpaceTabNewline (s : ByteArray) (w : World) (hs : s.size ≤ maxLen) : Calls Try.prog 71 #[.string s] w fun e w' => e = .returned (.string ⟨(stripE spaceB (stripF spaceB s.data.toList)).toArray⟩) ∧ w = w' := by
  go_enter Try.func71, Try.ntmps71
  go_wp2_with (go_at_call 94; refine (md_trimSpaceTabNewline _ _ hs).mono ?_; rintro e w' ⟨rfl, rfl⟩)
  go_ret
  exact ⟨rfl, rfl⟩
theorem impl_TrimSpaceTabNewline (s : ByteArray) (w : World) (hs : s.size ≤ maxLen) : Calls Try.prog 45 #[.string s] w fun e w' => e = .returned (.string ⟨(stripE spaceB (stripF spaceB s.data.toList)).toArray⟩) ∧ w = w' := by
  go_enter Try.func45, Try.ntmps45
  go_wp2_with (go_at_call 71; refine (md_ZZTrimSpaceTabNewline _ _ hs).mono ?_; rintro e w' ⟨rfl, rfl⟩)
  go_ret
  exact ⟨rfl, rfl⟩
end Go.Proofs.Ytigeaoijcjidbaa
