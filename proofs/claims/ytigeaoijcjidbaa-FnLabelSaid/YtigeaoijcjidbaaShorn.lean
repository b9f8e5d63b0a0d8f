/- The laws' word 'shorn': a text without blanks at its ends. -/
import Derived.Test.YtigeaoijcjidbaaBytes
import Derived.Test.YtigeaoijcjidbaaStripPlain
import Derived.Deep.LoopGhost
import Derived.Deep.DeepCutAuto
namespace Go.Proofs.Ytigeaoijcjidbaa
open Go.RowKit
set_option maxHeartbeats 1000000 in
theorem laws_shorn (s : ByteArray) (w : World) (hs : s.size ≤ maxLen) : Calls Try.prog 38 #[.string s] w fun e w' => e = .returned (.string ⟨(stripE blankB (stripF blankB s.data.toList)).toArray⟩) ∧ w = w' := by
  unfold maxLen at hs
  go_enter Try.func38, Try.ntmps38
  go_wp2
  go_loopg [3] s.size (fun g j wx => ∃ k : Nat, k + g = s.size ∧ j = .int .i64 k ∧ Hid (scan blankB s.data.toList k = scan blankB s.data.toList 0) ∧ w = wx)
  case atStart => exact ⟨0, by omega, rfl, Lib.hid rfl, rfl⟩
  case round =>
    obtain ⟨k, hkg, rfl, HR, rfl⟩ := hrel
    go_upto_region 2 with (fail)
    go_cut [15] from 7 to 15 (fun v wx => v = .bool (atB blankB s k) ∧ w = wx)
    case first =>
      go_wp2_with (go_at_call 15; refine (spec_IsBlank _ _).mono ?_; rintro e w' ⟨rfl, rfl⟩)
      all_goals (go_meet; refine ⟨congrArg Value.bool ?_, rfl⟩; first | (simp [atB, blankB, *]; done) | (simp_all [atB, blankB]; done) | (rw [Bool.eq_iff_iff]; simp_all [atB, blankB]; done) | (rw [Bool.eq_iff_iff]; simp_all [atB, blankB]; omega))
    case rest =>
      obtain ⟨rfl, rfl⟩ := hcut
      cases hB : atB blankB s k with
      | true =>
        have hlt := atB_lt hB
        go_wp2
        go_roundg (gk - 1)
        case measure => omega
        case rel => exact ⟨k + 1, by omega, by go_num, Lib.hid ((scan_yes hB).symm.trans HR.out), rfl⟩
      | false =>
        have HK := Lib.hid ((scan_no hB).symm.trans HR.out)
        have hki : k ≤ s.size := by omega
        clear HR
        have HI := HK; clear HK
        obtain ⟨i, hi⟩ : ∃ i, i = k := ⟨k, rfl⟩
        subst hi
        go_wp2
        go_loopg [4] s.size (fun g j wx => ∃ k : Nat, k = g ∧ i ≤ k ∧ k ≤ s.size ∧ j = .int .i64 k ∧ Hid (stripE blankB ((s.data.toList.take k).drop i) = stripE blankB (s.data.toList.drop i)) ∧ w = wx)
        case atStart => exact ⟨s.size, rfl, by omega, Nat.le_refl _, rfl, Lib.hid (by rw [List.take_of_length_le (by simp)]), rfl⟩
        case round =>
          obtain ⟨k, rfl, hik, hk, rfl, HR, rfl⟩ := hrel
          go_upto_region 4 with (fail)
          go_cut [27] from 18 to 27 (fun v wx => v = .bool (rB blankB s i k) ∧ w = wx)
          case first =>
            go_wp2_with (go_at_call 15; refine (spec_IsBlank _ _).mono ?_; rintro e w' ⟨rfl, rfl⟩)
            all_goals (go_meet; refine ⟨congrArg Value.bool ?_, rfl⟩; first | (simp [rB, blankB, *]; done) | (simp_all [rB, blankB]; done) | (rw [Bool.eq_iff_iff]; simp_all [rB, blankB]; done) | (rw [Bool.eq_iff_iff]; simp_all [rB, blankB]; omega))
          case rest =>
            obtain ⟨rfl, rfl⟩ := hcut
            cases hB : rB blankB s i k with
            | true =>
              obtain ⟨hlt, he⟩ := rB_yes hB
              have HE := Lib.hid he; clear he
              go_wp2
              go_roundg (k - 1)
              case measure => omega
              case rel => exact ⟨k - 1, rfl, by omega, by omega, congrArg _ (by omega), Lib.hid (HE.out.symm.trans HR.out), rfl⟩
            | false =>
              have HK := Lib.hid ((rB_no hk hB).symm.trans HR.out)
              go_wp2
              go_ret
              exact ⟨ret_str (by rw [extract_piece, HK.out, HI.out, scan_drop]), rfl⟩
end Go.Proofs.Ytigeaoijcjidbaa
