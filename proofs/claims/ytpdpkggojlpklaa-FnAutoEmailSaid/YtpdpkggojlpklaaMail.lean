/- The package's reading of an address of electronic mail in angle brackets. -/
import Derived.Test.YtpdpkggojlpklaaHost
namespace Go.Proofs.Ytpdpkggojlpklaa
open Go.RowKit
def mailtoM : ByteArray := ⟨#[109, 97, 105, 108, 116, 111, 58]⟩
/-- an address was read: a block of the call's own holds the link -/
def MailMade (s : ByteArray) (i E : Nat) (w : World) (e : Ending) (w' : World) : Prop :=
  ∃ b : Nat, e = .returned (.tuple #[.iface 71 (.pointer (some ⟨b, 0, none⟩)), .int .i64 ((E : Int) + 1), .bool true]) ∧ b < w'.heap.size ∧ w'.cell? ⟨b, 0, none⟩ = some (.string (s.extract (i + 1) E)) ∧ w'.cell? ⟨b, 1, none⟩ = some (.string (mailtoM ++ s.extract (i + 1) E)) ∧ Below w.heap.size w w'
def NoMail (w : World) (e : Ending) (w' : World) : Prop := e = .returned (.tuple #[.nilIface, .int .i64 0, .bool false]) ∧ Below w.heap.size w w'
def mailRes (o : Option Nat) (s : ByteArray) (i : Nat) (w : World) (e : Ending) (w' : World) : Prop := match o with | some E => MailMade s i E w e w' | none => NoMail w e w'
theorem mailEnd_drop (s : ByteArray) (e : Nat) (he : e < s.size) : mailEnd (some (s.data.toList.drop e)) s.size = if s[e] = 62 then some e else none := by
  rw [drop_cons s e he]
  unfold mailEnd
  simp only
  split
  · congr 1; simp; omega
  · rfl
theorem sk_of {u : ByteArray} : ∀ {k : Bool}, okE u = k → elemN u = if k then scan ldhB u.data.toList 0 else 0 := by intro k h; unfold elemN; rw [h]
theorem tail_list (s : ByteArray) (k : Nat) : (s.extract k s.size).data.toList = s.data.toList.drop k := by
  rw [Lib.extract_data, List.take_of_length_le (by simp)]
theorem scan_tail (p : Int → Bool) (s : ByteArray) (k : Nat) : scan p (s.extract k s.size).data.toList 0 + k = scan p s.data.toList k := by
  rw [tail_list]; unfold scan; simp; omega
theorem atB_tail (p : Int → Bool) (s : ByteArray) (k j : Nat) (h : k + j < s.size) : atB p (s.extract k s.size) j = atB p s (k + j) := by
  rw [atB_of h, atB_of (by rw [ByteArray.size_extract]; omega)]
  congr 2
  rw [ByteArray.getElem_extract]
theorem okE_tail (s : ByteArray) (k : Nat) : okE (s.extract k s.size) = okAt s k (scan ldhB s.data.toList k) := by
  rw [← okLab_at, ← tail_list]
  have := okLab_at (s.extract k s.size) 0
  rw [List.drop_zero] at this
  rw [this]; rfl
set_option maxHeartbeats 4000000 in
theorem md_parseAutoLinkEmail (s : ByteArray) (i : Nat) (w : World) (hs : s.size ≤ 1000) (hi : i < s.size) (hc : (s[i].toNat : Int) = 60) :
    Calls Try.prog 22 #[.string s, .int .i64 i] w (mailRes (mailEnd (mailL (s.data.toList.drop (i + 1))) s.size) s i w) := by
  have HM := Lib.hid (mailL_step s (i + 1))
  have hc2 : ((s[i].toNat : Int) != 60) = false := by rw [hc]; rfl
  clear hc
  obtain ⟨O, hO⟩ : ∃ O, O = mailEnd (mailL (s.data.toList.drop (i + 1))) s.size := ⟨_, rfl⟩
  have HO := Lib.hid hO
  obtain ⟨Q, hQ⟩ : ∃ Q, Q = mailRes O s i w := ⟨_, rfl⟩
  have HQ := Lib.hid hQ
  rw [← hO, ← hQ]
  have HNone := Lib.hid (show O = none → Q = NoMail w from fun h => by rw [hQ, h]; rfl)
  clear hQ hO
  by_cases h1 : i + 1 < s.size
  · have HL := Lib.hid (fun w => md_isUser (s[i + 1].toNat : Int) w)
    cases hu : userB (s[i + 1].toNat : Int) with
    | false =>
      have HN := Lib.hid (HNone.out (by rw [HO.out, HM.out, scan_stop userB s (i + 1) h1 hu, if_pos rfl]; rfl))
      rw [hu] at HL
      clear hu
      go_enter Try.func22, Try.ntmps22
      go_wp2_with (go_at_call 31; refine (HL.out _).mono ?_; rintro e w' ⟨rfl, rfl⟩)
      go_ret3
      rw [HN.out]
      exact ⟨rfl, Below.refl _ _⟩
    | true =>
      have hne : scan userB s.data.toList (i + 1) ≠ i + 1 := by
        rw [scan_step userB s (i + 1) h1 hu]
        have := le_scan userB s.data.toList (i + 2)
        show scan userB s.data.toList (i + 2) ≠ i + 1
        omega
      have hm := HM.out
      rw [if_neg hne] at hm
      rw [hm] at HO
      have HX : Hid (∀ k, scan userB s.data.toList (i + 1) = k → ∀ h : k < s.size, O = mailEnd (if s[k] = 64 then hostL (s.data.toList.drop (k + 1)) else none) s.size) := Lib.hid fun k e h => by
        subst e; rw [HO.out, dif_pos h]
      have HZ : Hid (∀ k, scan userB s.data.toList (i + 1) = k → ¬ k < s.size → O = none) := Lib.hid fun k e h => by
        subst e; rw [HO.out, dif_neg h]; rfl
      rw [hu] at HL
      clear hu hne hm HM HO
      go_enter Try.func22, Try.ntmps22
      go_wp2_with (go_at_call 31; refine (HL.out _).mono ?_; rintro e w' ⟨rfl, rfl⟩)
      clear HL
      go_loopg [7] (s.size - (i + 1)) (fun g j wx => ∃ k : Nat, i + 1 ≤ k ∧ k + g = s.size ∧ j = .int .i64 k ∧ Hid (scan userB s.data.toList (i + 1) = scan userB s.data.toList k) ∧ w = wx)
      case atStart => exact ⟨i + 1, by omega, by omega, by go_num, Lib.hid rfl, rfl⟩
      case round =>
        obtain ⟨k, hk1, hkg, rfl, HK, rfl⟩ := hrel
        by_cases hk : k < s.size
        · have HL := Lib.hid (fun w => md_isUser (s[k].toNat : Int) w)
          cases hu : userB (s[k].toNat : Int) with
          | true =>
            have HY := Lib.hid (HK.out.trans (scan_step userB s k hk hu))
            rw [hu] at HL
            clear hu
            go_wp2_with (go_at_call 31; refine (HL.out _).mono ?_; rintro e w' ⟨rfl, rfl⟩)
            go_roundg (gk - 1)
            case measure => omega
            case rel => exact ⟨k + 1, by omega, by omega, by go_num, HY, rfl⟩
          | false =>
            have hE := HK.out.trans (scan_stop userB s k hk hu)
            have hm := HX.out k hE hk
            rw [hu] at HL
            clear hu hE HK HX HZ
            by_cases h64 : s[k] = 64
            · rw [if_pos h64] at hm
              have HO := Lib.hid hm
              have e2 : ((s[k].toNat : Int) != 64) = false := by rw [h64]; rfl
              have hd1 : decide ((s.size : Int) ≤ (k : Int)) = false := by simp; omega
              have hd2 : decide (s.size ≤ k) = false := by simp; omega
              clear h64 hm
              go_wp2_with (go_at_call 31; refine (HL.out _).mono ?_; rintro e w' ⟨rfl, rfl⟩)
              clear HL e2 hd1 hd2
              go_loopg [7] (s.size - k) (fun g j wx => ∃ m : Nat, i + 1 ≤ m ∧ m < s.size ∧ m + g ≤ s.size ∧ s.size ≤ m + g ∧ j = .int .i64 m ∧ Hid (O = mailEnd (hostL (s.data.toList.drop (m + 1))) s.size) ∧ w = wx)
              case atStart => exact ⟨k, hk1, hk, by omega, by omega, rfl, HO, rfl⟩
              case round =>
                obtain ⟨m, him, hm, hmg1, hmg2, rfl, HR, rfl⟩ := hrel
                have hsu : (s.extract (m + 1) s.size).size ≤ 1000 := by rw [ByteArray.size_extract]; omega
                have HH := Lib.hid (fun w => md_skipDomainElem (s.extract (m + 1) s.size) w hsu)
                have hst := hostL_step s (m + 1)
                have hle := le_scan ldhB s.data.toList (m + 1)
                have hsz := scan_size ldhB s (m + 1) (by omega)
                have hoe := okE_tail s (m + 1)
                have hsc := scan_tail ldhB s (m + 1)
                cases hok : okAt s (m + 1) (scan ldhB s.data.toList (m + 1)) with
                | false =>
                  have hN : elemN (s.extract (m + 1) s.size) = 0 := by unfold elemN; rw [hoe, hok]; rfl
                  rw [hN, hoe, hok] at HH
                  have HN := Lib.hid (HNone.out (by rw [HR.out, hst, hok]; rfl))
                  clear hst hok hN HR hle hsz hoe hsc
                  go_wp2_with (go_at_call 32; refine (HH.out _).mono ?_; rintro e w' ⟨rfl, rfl⟩)
                  go_ret3
                  rw [HN.out]
                  exact ⟨rfl, Below.refl _ _⟩
                | true =>
                  have hN : elemN (s.extract (m + 1) s.size) = scan ldhB s.data.toList (m + 1) - (m + 1) := by unfold elemN; rw [hoe, hok, if_pos rfl]; omega
                  rw [hN, hoe, hok] at HH
                  rw [hok, if_pos rfl] at hst
                  have HS := Lib.hid hst
                  have hlt : m + 1 < scan ldhB s.data.toList (m + 1) := by
                    unfold okAt at hok; simp at hok; exact hok.1.1.1
                  clear hst hok hN hoe hsc hle
                  generalize scan ldhB s.data.toList (m + 1) = e at *
                  obtain ⟨d, rfl⟩ : ∃ d, e = m + 1 + d := ⟨e - (m + 1), by omega⟩
                  rw [show m + 1 + d - (m + 1) = d by omega] at HH
                  by_cases he : m + 1 + d < s.size
                  · have hse := HS.out
                    rw [dif_pos he] at hse
                    by_cases h46 : s[m + 1 + d] = 46
                    · rw [if_pos h46] at hse
                      have HY : Hid (O = mailEnd (hostL (s.data.toList.drop (m + 1 + d + 1))) s.size) := Lib.hid (by rw [HR.out, hse])
                      have e2 : ((s[m + 1 + d].toNat : Int) != 46) = false := by rw [h46]; rfl
                      have e3 : ((s[m + 1 + d].toNat : Int) == 62) = false := by rw [h46]; rfl
                      clear hse HS HR h46
                      go_wp2_with (go_at_call 32; refine (HH.out _).mono ?_; rintro e w' ⟨rfl, rfl⟩)
                      go_roundg (s.size - (m + 1 + d))
                      case measure => omega
                      case rel => exact ⟨m + 1 + d, by omega, he, by omega, by omega, by go_num, HY, rfl⟩
                    · rw [if_neg h46] at hse
                      have e2 : ((s[m + 1 + d].toNat : Int) != 46) = true := by
                        rw [bne_iff_ne]; intro h; exact h46 (UInt8.toNat_inj.1 (by show s[m + 1 + d].toNat = 46; omega))
                      by_cases h62 : s[m + 1 + d] = 62
                      · have HY : Hid (Q = MailMade s i (m + 1 + d) w) := Lib.hid (by
                          rw [HQ.out, HR.out, hse, mailEnd_drop s _ he, if_pos h62]; rfl)
                        have e3 : ((s[m + 1 + d].toNat : Int) != 62) = false := by rw [h62]; rfl
                        have e4 : ((s[m + 1 + d].toNat : Int) == 62) = true := by rw [h62]; rfl
                        clear hse HS HR h46 h62
                        go_wp2_with (go_at_call 32; refine (HH.out _).mono ?_; rintro e w' ⟨rfl, rfl⟩)
                        rw [HY.out]
                        go_ret3
                        refine ⟨w.heap.size, by rw [show (((m + 1 + d : Nat) : Int) + 1) = (m : Int) + 1 + d + 1 by omega]; rfl, by simp, ?_, ?_, (Below.refl _ _).alloc (Nat.le_refl _) _⟩
                        · rw [World.cell?_alloc_mark]; rfl
                        · rw [World.cell?_alloc_mark]; rfl
                      · have HN := Lib.hid (HNone.out (by rw [HR.out, hse, mailEnd_drop s _ he, if_neg h62]))
                        have e3 : ((s[m + 1 + d].toNat : Int) != 62) = true := by
                          rw [bne_iff_ne]; intro h; exact h62 (UInt8.toNat_inj.1 (by show s[m + 1 + d].toNat = 62; omega))
                        clear hse HS HR h46 h62
                        go_wp2_with (go_at_call 32; refine (HH.out _).mono ?_; rintro e w' ⟨rfl, rfl⟩)
                        go_ret3
                        rw [HN.out]
                        exact ⟨rfl, Below.refl _ _⟩
                  · have hse := HS.out
                    rw [dif_neg he] at hse
                    have HN := Lib.hid (HNone.out (by rw [HR.out, hse]; rfl))
                    clear hse HS HR
                    go_wp2_with (go_at_call 32; refine (HH.out _).mono ?_; rintro e w' ⟨rfl, rfl⟩)
                    go_ret3
                    rw [HN.out]
                    exact ⟨rfl, Below.refl _ _⟩
            · rw [if_neg h64] at hm
              have e2 : ((s[k].toNat : Int) != 64) = true := by
                rw [bne_iff_ne]; intro h; exact h64 (UInt8.toNat_inj.1 (by show s[k].toNat = 64; omega))
              have HN := Lib.hid (HNone.out hm)
              clear h64 hm
              go_wp2_with (go_at_call 31; refine (HL.out _).mono ?_; rintro e w' ⟨rfl, rfl⟩)
              go_ret3
              rw [HN.out]
              exact ⟨rfl, Below.refl _ _⟩
        · have hE := HK.out.trans (scan_end userB s k (by omega))
          have HN := Lib.hid (HNone.out (HZ.out k hE hk))
          clear hE HK HX HZ
          go_wp2_with (fail)
          go_ret3
          rw [HN.out]
          exact ⟨rfl, Below.refl _ _⟩
  · have HN := Lib.hid (HNone.out (by rw [HO.out, HM.out, scan_end userB s (i + 1) (by omega), if_pos rfl]; rfl))
    go_enter Try.func22, Try.ntmps22
    go_wp2_with (fail)
    go_ret3
    rw [HN.out]
    exact ⟨rfl, Below.refl _ _⟩
end Go.Proofs.Ytpdpkggojlpklaa
