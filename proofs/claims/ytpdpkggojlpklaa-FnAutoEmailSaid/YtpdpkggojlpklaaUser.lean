/- The package's and the reference's classes of bytes of addresses. -/
import Derived.Test.YtpdpkggojlpklaaBytes
import Derived.Test.YtpdpkggojlpklaaAddrPlain
import Derived.WalkSpells
import Derived.WalkLawsBesides
import Derived.Deep.LoopGhost
namespace Go.Proofs.Ytpdpkggojlpklaa
open Go.RowKit
def signS : ByteArray := ⟨#[46, 33, 35, 36, 37, 38, 39, 42, 43, 47, 61, 63, 94, 95, 96, 123, 124, 125, 126, 45]⟩
theorem sign_any_take (c : Int) (k : Nat) (h : k < signS.size) (hno : (signS.data.toList.take k).any (fun d => c == (d.toNat : Int)) = false) (hc : ¬ c = (signS[k].toNat : Int)) : (signS.data.toList.take (k + 1)).any (fun d => c == (d.toNat : Int)) = false := by
  rw [take_snoc signS k h, List.any_append, hno]; simp [hc]
theorem sign_hit (c : Int) (k : Nat) (h : k < signS.size) (hc : c = (signS[k].toNat : Int)) (ha : alnB c = false) : userB c = true := by
  unfold userB
  rw [ha, Bool.false_or, List.any_eq_true]
  exact ⟨signS[k], by show _ ∈ signS.data.toList; rw [Array.mem_toList_iff]; exact Array.getElem_mem h, by simpa using hc⟩
theorem sign_miss (c : Int) (hno : signS.data.toList.any (fun d => c == (d.toNat : Int)) = false) (ha : alnB c = false) : userB c = false := by
  unfold userB
  rw [ha, Bool.false_or]; exact hno
theorem user_aln {c : Int} (ha : alnB c = true) : userB c = true := by unfold userB; rw [ha]; rfl
set_option maxHeartbeats 1000000 in
theorem md_isUser (c : Int) (w : World) : Calls Try.prog 31 #[.int .u8 c] w fun e w' => e = .returned (.bool (userB c)) ∧ w = w' := by
  have HL := Lib.hid (fun w => md_isLetterDigit c w)
  cases ha : alnB c with
  | true =>
    have HU := Lib.hid (user_aln ha)
    rw [ha] at HL
    clear ha
    generalize userB c = U at *
    go_enter Try.func31, Try.ntmps31
    go_wp2_with (go_at_call 36; refine (HL.out _).mono ?_; rintro e w' ⟨rfl, rfl⟩)
    go_ret
    exact ⟨ret_bool HU.out.symm, rfl⟩
  | false =>
    have HH := Lib.hid (fun k h hc => sign_hit c k h hc ha)
    have HM := Lib.hid (fun h => sign_miss c h ha)
    rw [ha] at HL
    clear ha
    generalize userB c = U at *
    go_enter Try.func31, Try.ntmps31
    go_wp2_with (go_at_call 36; refine (HL.out _).mono ?_; rintro e w' ⟨rfl, rfl⟩)
    rw [show (⟨#[46, 33, 35, 36, 37, 38, 39, 42, 43, 47, 61, 63, 94, 95, 96, 123, 124, 125, 126, 45]⟩ : ByteArray) = signS from rfl]
    have HT := Lib.hid (fun k h => sign_any_take c k h)
    have hz : signS.size ≤ 20 := by decide
    generalize signS = S at *
    go_loopg [4] S.size (fun g j wx => ∃ k : Nat, k + g = S.size ∧ j = .int .i64 k ∧ Hid ((S.data.toList.take k).any (fun d => c == (d.toNat : Int)) = false) ∧ w = wx)
    case atStart => exact ⟨0, by omega, rfl, Lib.hid rfl, rfl⟩
    case round =>
      obtain ⟨k, hkg, rfl, HK, rfl⟩ := hrel
      by_cases hk : k < S.size
      · by_cases hc : c = (S[k].toNat : Int)
        · have HY := Lib.hid (HH.out k hk hc)
          have hcb : (c == (S[k].toNat : Int)) = true := beq_iff_eq.2 hc
          clear hc
          go_wp2_with (fail)
          go_ret
          exact ⟨ret_bool HY.out.symm, rfl⟩
        · have HN := Lib.hid (HT.out k hk HK.out hc)
          have hcb : (c == (S[k].toNat : Int)) = false := beq_eq_false_iff_ne.2 hc
          clear hc
          go_wp2_with (fail)
          go_roundg (gk - 1)
          case measure => omega
          case rel => exact ⟨k + 1, by omega, by go_num, HN, rfl⟩
      · have HN := Lib.hid (HM.out (by have := HK.out; rwa [List.take_of_length_le (by simp; omega)] at this))
        go_wp2_with (fail)
        go_ret
        exact ⟨ret_bool HN.out.symm, rfl⟩
set_option maxHeartbeats 1000000 in
theorem spec_local (c : Int) (w : World) : Calls Try.prog 25 #[.int .u8 c] w fun e w' => e = .returned (.bool (userB c)) ∧ w = w' := by
  have HL := Lib.hid (fun w => spec_IsLetter c w)
  have HD := Lib.hid (fun w => spec_IsDigit c w)
  cases hl : letB c with
  | true =>
    have HU := Lib.hid (user_aln (c := c) (by unfold alnB; rw [hl]; rfl))
    rw [hl] at HL
    clear hl
    generalize userB c = U at *
    go_enter Try.func25, Try.ntmps25
    go_wp2_with (go_at_call 23; refine (HL.out _).mono ?_; rintro e w' ⟨rfl, rfl⟩)
    go_ret
    exact ⟨ret_bool HU.out.symm, rfl⟩
  | false =>
  cases hd : digB c with
  | true =>
    have HU := Lib.hid (user_aln (c := c) (by unfold alnB; rw [hd]; simp))
    rw [hl] at HL
    rw [hd] at HD
    clear hl hd
    generalize userB c = U at *
    go_enter Try.func25, Try.ntmps25
    go_wp2_with (first | (go_at_call 23; refine (HL.out _).mono ?_; rintro e w' ⟨rfl, rfl⟩) | (go_at_call 24; refine (HD.out _).mono ?_; rintro e w' ⟨rfl, rfl⟩))
    go_ret
    exact ⟨ret_bool HU.out.symm, rfl⟩
  | false =>
    have ha : alnB c = false := by unfold alnB; rw [hl, hd]; rfl
    have HH := Lib.hid (fun k h hc => sign_hit c k h hc ha)
    have HM := Lib.hid (fun h => sign_miss c h ha)
    rw [hl] at HL
    rw [hd] at HD
    clear hl hd ha
    generalize userB c = U at *
    go_enter Try.func25, Try.ntmps25
    go_wp2_with (first | (go_at_call 23; refine (HL.out _).mono ?_; rintro e w' ⟨rfl, rfl⟩) | (go_at_call 24; refine (HD.out _).mono ?_; rintro e w' ⟨rfl, rfl⟩))
    have HT := Lib.hid (fun k h => sign_any_take c k h)
    go_loopg [3] 20 (fun g j wx => ∃ k : Nat, k + g = 20 ∧ j = .int .i64 k ∧ Hid ((signS.data.toList.take k).any (fun d => c == (d.toNat : Int)) = false) ∧ w = wx)
    case atStart => exact ⟨0, by omega, rfl, Lib.hid rfl, rfl⟩
    case round =>
      obtain ⟨k, hkg, rfl, HK, rfl⟩ := hrel
      by_cases hk : k < 20
      · have hks : k < signS.size := hk
        by_cases hc : c = (signS[k].toNat : Int)
        · have HY := Lib.hid (HH.out k hk hc)
          have hcb : ((((⟨#[46, 33, 35, 36, 37, 38, 39, 42, 43, 47, 61, 63, 94, 95, 96, 123, 124, 125, 126, 45]⟩ : ByteArray)[k]'hks).toNat : Int) == c) = true := beq_iff_eq.2 hc.symm
          clear hc
          go_wp2_with (fail)
          go_ret
          exact ⟨ret_bool HY.out.symm, rfl⟩
        · have HN := Lib.hid (HT.out k hk HK.out hc)
          have hcb : ((((⟨#[46, 33, 35, 36, 37, 38, 39, 42, 43, 47, 61, 63, 94, 95, 96, 123, 124, 125, 126, 45]⟩ : ByteArray)[k]'hks).toNat : Int) == c) = false := beq_eq_false_iff_ne.2 (fun h => hc h.symm)
          clear hc
          go_wp2_with (fail)
          go_roundg (gk - 1)
          case measure => omega
          case rel => exact ⟨k + 1, by omega, by go_num, HN, rfl⟩
      · have HN := Lib.hid (HM.out (by have := HK.out; rwa [List.take_of_length_le (by show signS.data.size ≤ k; simp [signS]; omega)] at this))
        go_wp2_with (fail)
        go_ret
        exact ⟨ret_bool HN.out.symm, rfl⟩
end Go.Proofs.Ytpdpkggojlpklaa
