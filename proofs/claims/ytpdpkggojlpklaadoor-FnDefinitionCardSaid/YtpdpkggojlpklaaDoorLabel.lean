/- The package's reading of a link label. -/
import Derived.Test.YtpdpkggojlpklaaDoorLabelPlain
import Derived.Test.YtpdpkggojlpklaaDoorTrims
namespace Go.Proofs.YtpdpkggojlpklaaDoor
open Go.RowKit
theorem byte_eq {b : UInt8} {n : Nat} (h : (b.toNat : Int) = n) (hn : n < 256) : b = UInt8.ofNat n := UInt8.toNat_inj.1 (by simp; omega)
theorem byte_ne {b : UInt8} {n : Nat} (h : ¬ (b.toNat : Int) = n) (hn : n < 256) : b ≠ UInt8.ofNat n := fun e => h (by subst e; simp; omega)
set_option maxHeartbeats 1000000 in
theorem md_parseLinkLabel (p : Value) (s : ByteArray) (i : Nat) (w : World) (hs : s.size ≤ 900) (hi : i < s.size) (hb : (s[i].toNat : Int) = 91) :
    Calls Tryd.prog 30 #[p, .string s, .int .i64 i] w fun e w' => e = .returned (labelRes s i) ∧ w = w' := by
  obtain ⟨V, hV⟩ : ∃ V, V = labelRes s i := ⟨_, rfl⟩
  have HV := Lib.hid hV; rw [← hV]; clear hV
  have hdi : decide (s.size ≤ i) = false := by simp; omega
  go_enter Tryd.func30, Tryd.ntmps30
  go_wp2_with (fail)
  go_loopg [9] (s.size - (i + 1)) (fun g j wx => ∃ k : Nat, i + 1 ≤ k ∧ k + g = s.size ∧ j = .int .i64 k ∧ Hid (labEnd (s.data.toList.drop k) (k - i) = labEnd (s.data.toList.drop (i + 1)) 1) ∧ w = wx)
  case atStart => exact ⟨i + 1, by omega, by omega, by go_num, Lib.hid (by rw [show i + 1 - i = 1 from by omega]), rfl⟩
  case round =>
    obtain ⟨k, hk, hkg, rfl, HR, rfl⟩ := hrel
    by_cases hlt : k < s.size
    · have hd := drop_cons s k hlt
      have HD := Lib.hid hd; clear hd
      by_cases h93 : (s[k].toNat : Int) = 93
      · have hE : labEnd (s.data.toList.drop (i + 1)) 1 = some (k - i) := by rw [← HR.out, HD.out, labEnd_close _ _ (byte_eq (n := 93) h93 (by decide))]
        have HE := Lib.hid hE; clear hE
        have hxs : (s.extract (i + 1) k).size ≤ maxLen := by rw [ByteArray.size_extract]; unfold maxLen; omega
        have hx : (s.extract (i + 1) k).data.toList = (s.data.toList.take k).drop (i + 1) := by rw [extract_piece]
        obtain ⟨X, hX⟩ : ∃ X : ByteArray, X = ⟨(strip2 spaceB ((s.data.toList.take k).drop (i + 1))).toArray⟩ := ⟨_, rfl⟩
        have HC := Lib.hid (md_trimSpaceTabNewline (s.extract (i + 1) k) w hxs)
        rw [hx] at HC
        change Hid (Calls _ _ _ _ fun e w' => e = .returned (.string ⟨(strip2 spaceB ((s.data.toList.take k).drop (i + 1))).toArray⟩) ∧ w = w') at HC
        rw [← hX] at HC
        have HX := Lib.hid hX
        clear hx hxs
        cases hem : strip2 spaceB ((s.data.toList.take k).drop (i + 1)) with
        | nil =>
          have hxe : X.toList.isEmpty = true := by rw [hX, hem, ByteArray.toList_mk]; rfl
          have hxe2 : X.toList = [] := by rw [hX, hem, ByteArray.toList_mk]
          have HM := Lib.hid hem; clear hem hX
          go_wp2_with (go_at_call 36; refine HC.out.mono ?_; rintro e w' ⟨rfl, rfl⟩)
          go_ret3
          exact ⟨congrArg Ending.returned (HV.out.trans (labelRes_empty (by omega) HE.out HM.out)).symm, rfl⟩
        | cons c r =>
          have hxe : X.toList.isEmpty = false := by rw [hX, hem, ByteArray.toList_mk]; rfl
          have hxe2 : ¬ X.toList = [] := by rw [hX, hem, ByteArray.toList_mk]; simp
          have HM := Lib.hid hem; clear hem hX
          go_wp2_with (go_at_call 36; refine HC.out.mono ?_; rintro e w' ⟨rfl, rfl⟩)
          go_ret3
          have hv := HV.out.trans (labelRes_some (by omega) HE.out (by rw [HM.out]; simp))
          rw [← HX.out] at hv
          exact ⟨congrArg Ending.returned hv.symm, rfl⟩
      · by_cases h91 : (s[k].toNat : Int) = 91
        · have hE : labEnd (s.data.toList.drop (i + 1)) 1 = none := by rw [← HR.out, HD.out, labEnd_open _ _ (byte_eq (n := 91) h91 (by decide))]
          have HE := Lib.hid hE; clear hE
          go_wp2_with (fail)
          go_ret3
          exact ⟨congrArg Ending.returned (HV.out.trans (labelRes_none HE.out)).symm, rfl⟩
        · by_cases h92 : (s[k].toNat : Int) = 92
          · by_cases h1 : k + 1 < s.size
            · have hE : labEnd (s.data.toList.drop (k + 2)) (k + 2 - i) = labEnd (s.data.toList.drop (i + 1)) 1 := by
                rw [← HR.out, HD.out, drop_cons s (k + 1) h1, labEnd_back _ _ _ (byte_eq (n := 92) h92 (by decide)), show k - i + 2 = k + 2 - i from by omega]
              have HE := Lib.hid hE; clear hE
              go_wp2_with (fail)
              go_roundg (gk - 2)
              case measure => omega
              case rel => exact ⟨k + 2, by omega, by omega, by go_num, HE, rfl⟩
            · have hE : labEnd (s.data.toList.drop (k + 1)) (k + 1 - i) = labEnd (s.data.toList.drop (i + 1)) 1 := by
                rw [← HR.out, HD.out, List.drop_eq_nil_of_le (by simp; omega), labEnd_last _ (byte_eq (n := 92) h92 (by decide))]; rfl
              have HE := Lib.hid hE; clear hE
              go_wp2_with (fail)
              go_roundg (gk - 1)
              case measure => omega
              case rel => exact ⟨k + 1, by omega, by omega, by go_num, HE, rfl⟩
          · have hE : labEnd (s.data.toList.drop (k + 1)) (k + 1 - i) = labEnd (s.data.toList.drop (i + 1)) 1 := by
              rw [← HR.out, HD.out, labEnd_other _ _ (byte_ne (n := 93) h93 (by decide)) (byte_ne (n := 91) h91 (by decide)) (byte_ne (n := 92) h92 (by decide)), show k - i + 1 = k + 1 - i from by omega]
            have HE := Lib.hid hE; clear hE
            go_wp2_with (fail)
            go_roundg (gk - 1)
            case measure => omega
            case rel => exact ⟨k + 1, by omega, by omega, by go_num, HE, rfl⟩
    · have hE : labEnd (s.data.toList.drop (i + 1)) 1 = none := by rw [← HR.out, List.drop_eq_nil_of_le (by simp; omega)]; rfl
      have HE := Lib.hid hE; clear hE
      go_wp2_with (fail)
      go_ret3
      exact ⟨congrArg Ending.returned (HV.out.trans (labelRes_none HE.out)).symm, rfl⟩
end Go.Proofs.YtpdpkggojlpklaaDoor
