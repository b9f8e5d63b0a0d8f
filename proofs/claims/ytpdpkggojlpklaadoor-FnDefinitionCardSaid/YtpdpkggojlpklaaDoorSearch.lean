/- The package's search of a text in a text. -/
import Derived.Test.YtpdpkggojlpklaaDoorSearchPlain
import Derived.Test.YtpdpkggojlpklaaDoorRows
import Derived.WalkSpells
import Derived.WalkLawsBesides
import Derived.Deep.LoopGhost
namespace Go.Proofs.YtpdpkggojlpklaaDoor
open Go.RowKit
set_option maxHeartbeats 400000 in
theorem md_zzIndex (s sub : ByteArray) (w : World) (hs : s.size + sub.size + 1 ≤ maxLen) :
    Calls Tryd.prog 47 #[.string s, .string sub] w fun e w' => e = .returned (.int .i64 (idxInt (findSub sub.data.toList s.data.toList))) ∧ w = w' := by
  unfold maxLen at hs
  go_enter Tryd.func47, Tryd.ntmps47
  go_wp2_with (fail)
  go_loopg [5] s.size (fun g j wx => ∃ k : Nat, k + g = s.size ∧ j = .int .i64 k ∧ Hid (findSub sub.data.toList s.data.toList = (findSub sub.data.toList (s.data.toList.drop k)).map (· + k)) ∧ w = wx)
  case atStart => exact ⟨0, by omega, rfl, Lib.hid (by simp), rfl⟩
  case round =>
    obtain ⟨k, hkg, rfl, HR, rfl⟩ := hrel
    by_cases hle : k + sub.size ≤ s.size
    · have hle2 : (k : Int) + sub.size ≤ s.size := by omega
      have ht := piece_test s sub k hle
      cases hp : sub.data.toList.isPrefixOf (s.data.toList.drop k) with
      | true =>
        rw [hp] at ht
        have HP := Lib.hid hp; clear hp
        have HV : Hid (idxInt (findSub sub.data.toList s.data.toList) = k) := by unfold Hid; rw [HR.out, findSub_yes HP.out]; simp [idxInt]
        go_wp2_with (fail)
        go_ret
        exact ⟨ret_int HV.out.symm, rfl⟩
      | false =>
        rw [hp] at ht
        have HP := Lib.hid hp; clear hp
        have hk : k < s.size := by
          rcases Nat.lt_or_ge k s.size with h | h
          · exact h
          · have h2 := HP.out
            have hd : s.data.toList.drop k = [] := List.drop_eq_nil_of_le (by simp; omega)
            have hsub : sub.data.toList = [] := List.eq_nil_of_length_eq_zero (by rw [← Lib.size_eq]; omega)
            rw [hd, hsub] at h2; simp at h2
        have HN : Hid (findSub sub.data.toList s.data.toList = (findSub sub.data.toList (s.data.toList.drop (k + 1))).map (· + (k + 1))) := by
          unfold Hid
          have h2 := HP.out
          rw [drop_cons s k hk] at h2
          rw [HR.out, drop_cons s k hk, findSub_no h2]
          cases findSub sub.data.toList (s.data.toList.drop (k + 1)) with
          | none => rfl
          | some j => simp; omega
        go_wp2_with (fail)
        go_roundg (gk - 1)
        case measure => omega
        case rel => exact ⟨k + 1, by omega, by go_num, HN, rfl⟩
    · have hle2 : ¬ (k : Int) + sub.size ≤ s.size := by omega
      have HV : Hid (idxInt (findSub sub.data.toList s.data.toList) = -1) := by
        unfold Hid; rw [HR.out, findSub_short (by rw [List.length_drop, ← Lib.size_eq, ← Lib.size_eq]; omega)]; rfl
      go_wp2_with (fail)
      go_ret
      exact ⟨ret_int HV.out.symm, rfl⟩
theorem md_zzContains (s sub : ByteArray) (w : World) (hs : s.size + sub.size + 1 ≤ maxLen) :
    Calls Tryd.prog 39 #[.string s, .string sub] w fun e w' => e = .returned (.bool (findSub sub.data.toList s.data.toList).isSome) ∧ w = w' := by
  have H := Lib.hid (md_zzIndex s sub w hs)
  have hge := idx_ge (findSub sub.data.toList s.data.toList)
  have he : (findSub sub.data.toList s.data.toList).isSome = decide (0 ≤ idxInt (findSub sub.data.toList s.data.toList)) := by
    cases findSub sub.data.toList s.data.toList <;> simp [idxInt]
  rw [he]
  generalize idxInt (findSub sub.data.toList s.data.toList) = r at *
  clear he
  go_enter Tryd.func39, Tryd.ntmps39
  go_wp2_with (go_at_call 47; refine H.out.mono ?_; rintro e w' ⟨rfl, rfl⟩)
  go_ret
  exact ⟨rfl, rfl⟩
end Go.Proofs.YtpdpkggojlpklaaDoor
