/- The reference's Fold at labels of letters and digits. -/
import Derived.Test.YtpdpkggojlpklaaDoorFold
namespace Go.Proofs.YtpdpkggojlpklaaDoor
open Go.RowKit
set_option maxHeartbeats 2000000 in
theorem spec_Fold (s : ByteArray) (w : World) (hs : s.size ≤ 1000) (ha : AlnAll s) :
    Calls Tryd.prog 10 #[.string s] w fun e w' => e = .returned (.string ⟨(lowL s.data.toList).toArray⟩) ∧ w = w' := by
  have hA := fun k hk => aln_bytes (ha.get k hk)
  have HA := Lib.hid hA
  clear ha hA
  go_enter Tryd.func10, Tryd.ntmps10
  go_wp2_with (fail)
  go_loopg [3, 4, 5] s.size (fun g o bl j wx => ∃ (k : Nat) (O : ByteArray), k + g = s.size ∧ o = .string O ∧ bl = .bool false ∧ j = .int .i64 k ∧ Hid (O.data.toList = lowL (s.data.toList.take k)) ∧ O.size ≤ k ∧ w = wx)
  case atStart => exact ⟨0, ⟨#[]⟩, by omega, rfl, rfl, rfl, Lib.hid rfl, Nat.le_refl 0, rfl⟩
  case round =>
    obtain ⟨k, O, hkg, rfl, rfl, rfl, HO, hO, rfl⟩ := hrel
    by_cases hk : k < s.size
    · have hst : lowL (s.data.toList.take (k + 1)) = lowL (s.data.toList.take k) ++ [lowC s[k]] := by
        rw [take_snoc s k hk, lowL_append]; rfl
      have HS := Lib.hid hst
      have hr := HA.out k hk
      have hsub : 0 < (s.extract k s.size).size := by rw [ByteArray.size_extract]; omega
      have hget : (s.extract k s.size)[0] = s[k] := by rw [ByteArray.getElem_extract]; simp
      have HD := fun w => decode_ascii (s.extract k s.size) w hsub (by rw [hget]; omega)
      rw [hget] at HD
      have HF := fun w => spec_folded s[k] w (by omega)
      have HB := fun w => spec_IsBlank (s[k].toNat : Int) w
      rw [show blankB (s[k].toNat : Int) = false by simp [blankB]; omega] at HB
      have e1 : ((s[k].toNat : Int) == 65533) = false := beq_eq_false_iff_ne.2 (by omega)
      have HD := Lib.hid HD
      have HF := Lib.hid HF
      have HB := Lib.hid HB
      clear hst hr hsub hget
      go_wp2_with (first
        | (go_at_call 15; refine (HD.out _).mono ?_; rintro e w' ⟨rfl, rfl⟩)
        | (go_at_call 16; refine (HB.out _).mono ?_; rintro e w' ⟨rfl, rfl⟩)
        | (go_at_call 17; refine (HF.out _).mono ?_; rintro e w' ⟨rfl, rfl⟩))
      go_roundg (s.size - (k + 1))
      case measure => omega
      case rel => exact ⟨k + 1, O ++ ⟨#[lowC s[k]]⟩, by omega, rfl, rfl, by go_num, Lib.hid (by rw [HS.out, ← HO.out]; simp), by rw [ByteArray.size_append]; show O.size + 1 ≤ _; omega, rfl⟩
    · have HE := Lib.hid (show O = ⟨(lowL s.data.toList).toArray⟩ by
        have h := HO.out
        rw [List.take_of_length_le (by simp; omega)] at h
        apply ByteArray.ext
        rw [← h])
      go_wp2_with (fail)
      go_ret
      exact ⟨ret_str HE.out, rfl⟩
end Go.Proofs.YtpdpkggojlpklaaDoor
