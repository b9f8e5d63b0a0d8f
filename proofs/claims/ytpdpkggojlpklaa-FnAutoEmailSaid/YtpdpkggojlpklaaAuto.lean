/- The reference's reading of an autolink: schemes, addresses, the text in angle brackets. -/
import Derived.Test.YtpdpkggojlpklaaHost
namespace Go.Proofs.Ytpdpkggojlpklaa
open Go.RowKit
def SchemeRes (s : ByteArray) (w : World) (e : Ending) (w' : World) : Prop := ∃ b : Bool, e = .returned (.bool b) ∧ (b = true → mailL s.data.toList = none) ∧ w = w'
theorem colon_no {s : ByteArray} {k : Nat} (hk : k < s.size) (ha : allB userB (s.data.toList.take k) = true) (hc : (s[k].toNat : Int) = 58) : mailL s.data.toList = none := by
  have h1 : s.data.toList = s.data.toList.take k ++ 58 :: s.data.toList.drop (k + 1) := by
    conv => lhs; rw [← List.take_append_drop k s.data.toList, drop_cons s k hk]
    have : s[k] = 58 := UInt8.toNat_inj.1 (by show s[k].toNat = 58; omega)
    rw [this]
  rw [h1]
  refine not_mail_colon fun c hc => ?_
  exact List.all_eq_true.1 ha c hc
set_option maxHeartbeats 2000000 in
theorem spec_scheme (s : ByteArray) (w : World) (hs : s.size ≤ 1000) : Calls Try.prog 18 #[.string s] w (SchemeRes s w) := by
  go_enter Try.func18, Try.ntmps18
  go_wp2_with (fail)
  go_loopg [3] s.size (fun g j wx => ∃ k : Nat, k + g = s.size ∧ j = .int .i64 k ∧ Hid (allB userB (s.data.toList.take k) = true) ∧ w = wx)
  case atStart => exact ⟨0, by omega, rfl, Lib.hid (allB_take_zero _ _), rfl⟩
  case round =>
    obtain ⟨k, hkg, rfl, HR, rfl⟩ := hrel
    go_upto_region 2 with (fail)
    go_cut [41] from 4 to 41 (fun v wx => ∃ b : Bool, v = .bool b ∧ Hid (b = true → atB userB s k = true) ∧ w = wx)
    case first =>
      go_wp2_with (first | (go_at_call 23; refine (spec_IsLetter _ _).mono ?_; rintro e w' ⟨rfl, rfl⟩) | (go_at_call 24; refine (spec_IsDigit _ _).mono ?_; rintro e w' ⟨rfl, rfl⟩))
      all_goals (go_meet; refine ⟨_, rfl, Lib.hid ?_, rfl⟩; intro hb; first | (cases hb; done) | (simp_all [atB, userB, alnB, signL]; done) | (simp_all [atB, userB, alnB, signL]; omega))
    case rest =>
      obtain ⟨b, rfl, Hb, rfl⟩ := hcut
      cases b with
      | true =>
        have hB := Hb.out rfl
        have hlt := atB_lt hB
        have HY := Lib.hid (allB_take_succ userB s k hlt HR.out (by rwa [atB_of hlt] at hB))
        clear hB Hb
        go_wp2
        go_roundg (gk - 1)
        case measure => omega
        case rel => exact ⟨k + 1, by omega, by go_num, HY, rfl⟩
      | false =>
        clear Hb
        go_upto_region 4 with (fail)
        go_cut [2] from 44 to 61 (fun v wx => ∃ b : Bool, v = .bool b ∧ Hid (b = true → ∃ h : k < s.size, (s[k].toNat : Int) = 58) ∧ w = wx)
        case first =>
          go_wp2_with (fail)
          all_goals (go_meet; refine ⟨_, rfl, Lib.hid ?_, rfl⟩; intro hb; first | (cases hb; done) | (simp_all; done))
        case rest =>
          obtain ⟨b, rfl, Hb, rfl⟩ := hcut
          go_wp2_with (fail)
          go_ret
          refine ⟨b, rfl, fun hb => ?_, rfl⟩
          obtain ⟨h, hc⟩ := Hb.out hb
          exact colon_no h HR.out hc
/-- the text is an address -/
def addrB (s : ByteArray) : Bool := mailL s.data.toList == some []
set_option maxHeartbeats 2000000 in
theorem spec_IsAddress (s : ByteArray) (w : World) (hs : s.size ≤ 1000) : Calls Try.prog 19 #[.string s] w fun e w' => e = .returned (.bool (addrB s)) ∧ w = w' := by
  have HM := Lib.hid (mailL_step s 0)
  rw [List.drop_zero] at HM
  have HA : Hid (addrB s = (mailL s.data.toList == some [])) := Lib.hid rfl
  rw [HM.out] at HA
  clear HM
  generalize addrB s = R at *
  go_enter Try.func19, Try.ntmps19
  go_wp2_with (fail)
  go_loopg [3] s.size (fun g j wx => ∃ k : Nat, k + g = s.size ∧ j = .int .i64 k ∧ Hid (scan userB s.data.toList 0 = scan userB s.data.toList k) ∧ w = wx)
  case atStart => exact ⟨0, by omega, rfl, Lib.hid rfl, rfl⟩
  case round =>
    obtain ⟨k, hkg, rfl, HR, rfl⟩ := hrel
    by_cases hk : k < s.size
    · have HL := Lib.hid (fun w => spec_local (s[k].toNat : Int) w)
      cases hu : userB (s[k].toNat : Int) with
      | true =>
        rw [hu] at HL
        have HY := Lib.hid (HR.out.trans (scan_step userB s k hk hu))
        clear hu
        go_wp2_with (go_at_call 25; refine (HL.out _).mono ?_; rintro e w' ⟨rfl, rfl⟩)
        go_roundg (gk - 1)
        case measure => omega
        case rel => exact ⟨k + 1, by omega, by go_num, HY, rfl⟩
      | false =>
        rw [hu] at HL
        have hE := HR.out.trans (scan_stop userB s k hk hu)
        rw [hE] at HA
        clear hu hE HR
        by_cases h0 : k = 0
        · have HV : Hid (R = false) := Lib.hid (by rw [HA.out, if_pos h0]; rfl)
          clear HA
          subst h0
          go_wp2_with (go_at_call 25; refine (HL.out _).mono ?_; rintro e w' ⟨rfl, rfl⟩)
          go_ret
          exact ⟨ret_bool HV.out.symm, rfl⟩
        · rw [if_neg h0, dif_pos hk] at HA
          have e0 : ((k : Int) == 0) = false := beq_eq_false_iff_ne.2 (by omega)
          have e1 : ((k : Int) == (s.size : Int)) = false := beq_eq_false_iff_ne.2 (by omega)
          by_cases h64 : s[k] = 64
          · rw [if_pos h64] at HA
            have e2 : ((s[k].toNat : Int) != 64) = false := by rw [h64]; rfl
            clear h64
            go_wp2_with (go_at_call 25; refine (HL.out _).mono ?_; rintro e w' ⟨rfl, rfl⟩)
            clear HL e0 e1 e2
            go_loopg [3] (s.size - k) (fun g j wx => ∃ m : Nat, m < s.size ∧ m + g ≤ s.size ∧ s.size ≤ m + g ∧ j = .int .i64 m ∧ Hid (R = (hostL (s.data.toList.drop (m + 1)) == some [])) ∧ w = wx)
            case atStart => exact ⟨k, hk, by omega, by omega, rfl, HA, rfl⟩
            case round =>
              obtain ⟨m, hm, hmg1, hmg2, rfl, HR, rfl⟩ := hrel
              have HH := Lib.hid (fun w => spec_hostLabel s (m + 1) w hs (by omega))
              have hst := hostL_step s (m + 1)
              have hle := le_scan ldhB s.data.toList (m + 1)
              have hsz := scan_size ldhB s (m + 1) (by omega)
              cases hok : okAt s (m + 1) (scan ldhB s.data.toList (m + 1)) with
              | false =>
                have hN : hlN s (m + 1) = -1 := by unfold hlN; rw [hok]; rfl
                rw [hN] at HH
                have HV : Hid (R = false) := Lib.hid (by rw [HR.out, hst, hok]; rfl)
                clear hst hok hN HR hle hsz
                go_wp2_with (go_at_call 26; refine (HH.out _).mono ?_; rintro e w' ⟨rfl, rfl⟩)
                go_ret
                exact ⟨ret_bool HV.out.symm, rfl⟩
              | true =>
                have hN : hlN s (m + 1) = (scan ldhB s.data.toList (m + 1) : Int) := by unfold hlN; rw [hok]; rfl
                rw [hN] at HH
                rw [hok, if_pos rfl] at hst
                have HS := Lib.hid hst
                clear hst hok hN
                generalize scan ldhB s.data.toList (m + 1) = e at *
                by_cases he : e < s.size
                · have hse := HS.out
                  rw [dif_pos he] at hse
                  have e1 : ((e : Int) == (s.size : Int)) = false := beq_eq_false_iff_ne.2 (by omega)
                  by_cases h46 : s[e] = 46
                  · rw [if_pos h46] at hse
                    have HY : Hid (R = (hostL (s.data.toList.drop (e + 1)) == some [])) := Lib.hid (by rw [HR.out, hse])
                    have e2 : ((s[e].toNat : Int) != 46) = false := by rw [h46]; rfl
                    clear hse HS HR h46
                    go_wp2_with (go_at_call 26; refine (HH.out _).mono ?_; rintro e w' ⟨rfl, rfl⟩)
                    go_roundg (s.size - e)
                    case measure => omega
                    case rel => exact ⟨e, he, by omega, by omega, rfl, HY, rfl⟩
                  · rw [if_neg h46] at hse
                    have HV : Hid (R = false) := Lib.hid (by rw [HR.out, hse, drop_cons s e he]; rfl)
                    have e2 : ((s[e].toNat : Int) != 46) = true := by
                      rw [bne_iff_ne]; intro h; exact h46 (UInt8.toNat_inj.1 (by show s[e].toNat = 46; omega))
                    clear hse HS HR h46
                    go_wp2_with (go_at_call 26; refine (HH.out _).mono ?_; rintro e w' ⟨rfl, rfl⟩)
                    go_ret
                    exact ⟨ret_bool HV.out.symm, rfl⟩
                · have hse := HS.out
                  rw [dif_neg he] at hse
                  have HV : Hid (R = true) := Lib.hid (by rw [HR.out, hse]; rfl)
                  have e1 : ((e : Int) == (s.size : Int)) = true := beq_iff_eq.2 (by omega)
                  clear hse HS HR
                  go_wp2_with (go_at_call 26; refine (HH.out _).mono ?_; rintro e w' ⟨rfl, rfl⟩)
                  go_ret
                  exact ⟨ret_bool HV.out.symm, rfl⟩
          · rw [if_neg h64] at HA
            have e2 : ((s[k].toNat : Int) != 64) = true := by
              rw [bne_iff_ne]; intro h; exact h64 (UInt8.toNat_inj.1 (by show s[k].toNat = 64; omega))
            have HV : Hid (R = false) := Lib.hid (by rw [HA.out]; rfl)
            clear h64 HA
            go_wp2_with (go_at_call 25; refine (HL.out _).mono ?_; rintro e w' ⟨rfl, rfl⟩)
            go_ret
            exact ⟨ret_bool HV.out.symm, rfl⟩
    · have hE := HR.out.trans (scan_end userB s k (by omega))
      rw [hE] at HA
      have HV : Hid (R = false) := Lib.hid (by
        rw [HA.out]
        split <;> first | rfl | (rw [dif_neg hk]; rfl))
      clear HA HR hE
      by_cases h0 : k = 0
      · subst h0
        go_wp2_with (fail)
        go_ret
        exact ⟨ret_bool HV.out.symm, rfl⟩
      · have e0 : ((k : Int) == 0) = false := beq_eq_false_iff_ne.2 (by omega)
        have e1 : ((k : Int) == (s.size : Int)) = true := beq_iff_eq.2 (by omega)
        go_wp2_with (fail)
        go_ret
        exact ⟨ret_bool HV.out.symm, rfl⟩
end Go.Proofs.Ytpdpkggojlpklaa
