/- Labels of hosts, as the package and the reference read them. -/
import Derived.Test.YtpdpkggojlpklaaUser
import Derived.Deep.DeepCutAuto
namespace Go.Proofs.Ytpdpkggojlpklaa
open Go.RowKit
/-- the text begins with a label of a host -/
def okE (s : ByteArray) : Bool := okAt s 0 (scan ldhB s.data.toList 0)
def elemN (s : ByteArray) : Nat := if okE s then scan ldhB s.data.toList 0 else 0
theorem scan_long {p : Int → Bool} {s : ByteArray} {i : Nat} (k : Nat) (h : scan p s.data.toList k = scan p s.data.toList i) : k ≤ scan p s.data.toList i := by
  rw [← h]; exact le_scan _ _ _
set_option maxHeartbeats 1000000 in
theorem md_skipDomainElem (s : ByteArray) (w : World) (hs : s.size ≤ 1000) :
    Calls Try.prog 32 #[.string s] w fun e w' => e = .returned (.tuple #[.int .i64 (elemN s), .bool (okE s)]) ∧ w = w' := by
  by_cases h0 : 0 < s.size
  · have HA := Lib.hid (fun w => md_isLetterDigit (s[0].toNat : Int) w)
    cases ha : alnB (s[0].toNat : Int) with
    | false =>
      have hk : okE s = false := by unfold okE okAt; rw [atB_of h0, ha]; simp
      have HN : Hid (elemN s = 0) := Lib.hid (by unfold elemN; rw [hk]; rfl)
      have HK := Lib.hid hk
      rw [ha] at HA
      clear ha hk
      generalize elemN s = N at *
      generalize okE s = K at *
      go_enter Try.func32, Try.ntmps32
      go_wp2_with (go_at_call 36; refine (HA.out _).mono ?_; rintro e w' ⟨rfl, rfl⟩)
      go_ret2
      rw [HN.out, HK.out]
      exact ⟨rfl, rfl⟩
    | true =>
      have HS := Lib.hid (scan_step ldhB s 0 h0 (by unfold ldhB; rw [ha]; rfl))
      have HE : Hid (okE s = (decide (0 < scan ldhB s.data.toList 0) && decide (scan ldhB s.data.toList 0 ≤ 63) && true && atB alnB s (scan ldhB s.data.toList 0 - 1))) := Lib.hid (by unfold okE okAt; rw [atB_of h0, ha])
      have HN : Hid (elemN s = if okE s then scan ldhB s.data.toList 0 else 0) := Lib.hid rfl
      rw [ha] at HA
      clear ha
      generalize elemN s = N at *
      generalize okE s = K at *
      go_enter Try.func32, Try.ntmps32
      go_wp2_with (go_at_call 36; refine (HA.out _).mono ?_; rintro e w' ⟨rfl, rfl⟩)
      go_loopg [4] 64 (fun g j wx => ∃ k : Nat, 1 ≤ k ∧ k ≤ s.size ∧ k + g = 65 ∧ j = .int .i64 k ∧ Hid (scan ldhB s.data.toList k = scan ldhB s.data.toList 0) ∧ w = wx)
      case atStart => exact ⟨1, by omega, by omega, by omega, rfl, Lib.hid HS.out.symm, rfl⟩
      case round =>
        obtain ⟨k, hk1, hk2, hkg, rfl, HR, rfl⟩ := hrel
        by_cases hk : k < s.size
        · have HL := Lib.hid (fun w => md_isLDH (s[k].toNat : Int) w)
          cases hl : ldhB (s[k].toNat : Int) with
          | true =>
            have HY := Lib.hid ((scan_step ldhB s k hk hl).symm.trans HR.out)
            rw [hl] at HL
            clear hl
            by_cases h63 : k ≤ 63
            · go_wp2_with (go_at_call 37; refine (HL.out _).mono ?_; rintro e w' ⟨rfl, rfl⟩)
              go_roundg (gk - 1)
              case measure => omega
              case rel => exact ⟨k + 1, by omega, by omega, by omega, by go_num, HY, rfl⟩
            · go_wp2_with (go_at_call 37; refine (HL.out _).mono ?_; rintro e w' ⟨rfl, rfl⟩)
              go_ret2
              have hK : K = false := by rw [HE.out]; have := scan_long k HR.out; simp; omega
              rw [HN.out, hK]
              exact ⟨rfl, rfl⟩
          | false =>
            have HY := Lib.hid (HR.out.symm.trans (scan_stop ldhB s k hk hl))
            rw [hl] at HL
            clear hl
            have HZ := Lib.hid (fun w => md_isLetterDigit (s[k - 1].toNat : Int) w)
            cases hz : alnB (s[k - 1].toNat : Int) with
            | true =>
              rw [hz] at HZ
              by_cases h63 : k ≤ 63
              · have HK : Hid (K = true) := Lib.hid (by rw [HE.out, HY.out, atB_of (k := k - 1) (by omega), hz]; simp; omega)
                clear hz
                go_wp2_with (first | (go_at_call 37; refine (HL.out _).mono ?_; rintro e w' ⟨rfl, rfl⟩) | (go_at_call 36; refine (HZ.out _).mono ?_; rintro e w' ⟨rfl, rfl⟩))
                go_ret2
                rw [HN.out, HK.out, if_pos rfl, HY.out]
                exact ⟨rfl, rfl⟩
              · have HK : Hid (K = false) := Lib.hid (by rw [HE.out, HY.out]; simp; omega)
                clear hz
                go_wp2_with (first | (go_at_call 37; refine (HL.out _).mono ?_; rintro e w' ⟨rfl, rfl⟩) | (go_at_call 36; refine (HZ.out _).mono ?_; rintro e w' ⟨rfl, rfl⟩))
                go_ret2
                rw [HN.out, HK.out]
                exact ⟨rfl, rfl⟩
            | false =>
              rw [hz] at HZ
              have HK : Hid (K = false) := Lib.hid (by rw [HE.out, HY.out, atB_of (k := k - 1) (by omega), hz]; simp)
              clear hz
              by_cases h63 : k ≤ 63
              · go_wp2_with (first | (go_at_call 37; refine (HL.out _).mono ?_; rintro e w' ⟨rfl, rfl⟩) | (go_at_call 36; refine (HZ.out _).mono ?_; rintro e w' ⟨rfl, rfl⟩))
                go_ret2
                rw [HN.out, HK.out]
                exact ⟨rfl, rfl⟩
              · go_wp2_with (first | (go_at_call 37; refine (HL.out _).mono ?_; rintro e w' ⟨rfl, rfl⟩) | (go_at_call 36; refine (HZ.out _).mono ?_; rintro e w' ⟨rfl, rfl⟩))
                go_ret2
                rw [HN.out, HK.out]
                exact ⟨rfl, rfl⟩
        · have HY := Lib.hid (HR.out.symm.trans (scan_end ldhB s k (by omega)))
          have HZ := Lib.hid (fun w => md_isLetterDigit (s[k - 1].toNat : Int) w)
          cases hz : alnB (s[k - 1].toNat : Int) with
          | true =>
            rw [hz] at HZ
            by_cases h63 : k ≤ 63
            · have HK : Hid (K = true) := Lib.hid (by rw [HE.out, HY.out, atB_of (k := k - 1) (by omega), hz]; simp; omega)
              clear hz
              go_wp2_with ((go_at_call 36; refine (HZ.out _).mono ?_; rintro e w' ⟨rfl, rfl⟩))
              go_ret2
              rw [HN.out, HK.out, if_pos rfl, HY.out]
              exact ⟨rfl, rfl⟩
            · have HK : Hid (K = false) := Lib.hid (by rw [HE.out, HY.out]; simp; omega)
              clear hz
              go_wp2_with ((go_at_call 36; refine (HZ.out _).mono ?_; rintro e w' ⟨rfl, rfl⟩))
              go_ret2
              rw [HN.out, HK.out]
              exact ⟨rfl, rfl⟩
          | false =>
            rw [hz] at HZ
            have HK : Hid (K = false) := Lib.hid (by rw [HE.out, HY.out, atB_of (k := k - 1) (by omega), hz]; simp)
            clear hz
            by_cases h63 : k ≤ 63
            · go_wp2_with ((go_at_call 36; refine (HZ.out _).mono ?_; rintro e w' ⟨rfl, rfl⟩))
              go_ret2
              rw [HN.out, HK.out]
              exact ⟨rfl, rfl⟩
            · go_wp2_with ((go_at_call 36; refine (HZ.out _).mono ?_; rintro e w' ⟨rfl, rfl⟩))
              go_ret2
              rw [HN.out, HK.out]
              exact ⟨rfl, rfl⟩
  · have hk : okE s = false := by unfold okE okAt; rw [atB_off (k := 0) h0]; simp
    have HN : Hid (elemN s = 0) := Lib.hid (by unfold elemN; rw [hk]; rfl)
    have HK := Lib.hid hk
    clear hk
    generalize elemN s = N at *
    generalize okE s = K at *
    go_enter Try.func32, Try.ntmps32
    go_wp2_with (fail)
    go_ret2
    rw [HN.out, HK.out]
    exact ⟨rfl, rfl⟩
/-- the end of a label of a host, as the reference has it -/
def hlN (s : ByteArray) (i : Nat) : Int := if okAt s i (scan ldhB s.data.toList i) then (scan ldhB s.data.toList i : Int) else -1
theorem dash_aln {c : Int} (h : ldhB c = true) : (c == 45) = !alnB c := by
  unfold ldhB at h
  cases ha : alnB c with
  | true =>
    rw [beq_eq_false_iff_ne.2]; · rfl
    intro e; subst e; cases ha
  | false => rw [ha, Bool.false_or] at h; rw [h]; rfl
theorem scan_inside (p : Int → Bool) (s : ByteArray) : ∀ (n k : Nat), n = scan p s.data.toList k - k → ∀ j, k ≤ j → j < scan p s.data.toList k → ∃ h : j < s.size, p (s[j].toNat : Int) = true
  | 0, k, hn, j, h1, h2 => by omega
  | n + 1, k, hn, j, h1, h2 => by
    have hk : k < s.size := by
      rcases Nat.lt_or_ge k s.size with h | h
      · exact h
      · rw [scan_end _ _ _ h] at hn; omega
    cases hp : p (s[k].toNat : Int) with
    | false => rw [scan_stop _ _ _ hk hp] at hn; omega
    | true =>
      have hs := scan_step p s k hk hp
      by_cases hj : j = k
      · subst hj; exact ⟨hk, hp⟩
      · rw [hs] at hn h2
        exact scan_inside p s n (k + 1) (by omega) j (by omega) h2
set_option maxHeartbeats 1000000 in
theorem spec_hostLabel (s : ByteArray) (i : Nat) (w : World) (hs : s.size ≤ 1000) (hi : i ≤ s.size) :
    Calls Try.prog 26 #[.string s, .int .i64 i] w fun e w' => e = .returned (.int .i64 (hlN s i)) ∧ w = w' := by
  have HE : Hid (hlN s i = if okAt s i (scan ldhB s.data.toList i) then (scan ldhB s.data.toList i : Int) else -1) := Lib.hid rfl
  generalize hlN s i = N at *
  go_enter Try.func26, Try.ntmps26
  go_wp2_with (fail)
  go_loopg [5] (s.size - i) (fun g j wx => ∃ k : Nat, i ≤ k ∧ k + g = s.size ∧ j = .int .i64 k ∧ Hid (scan ldhB s.data.toList k = scan ldhB s.data.toList i) ∧ w = wx)
  case atStart => exact ⟨i, by omega, by omega, rfl, Lib.hid rfl, rfl⟩
  case round =>
    obtain ⟨k, hk, hkg, rfl, HR, rfl⟩ := hrel
    go_upto_region 2 with (fail)
    go_cut [28] from 7 to 28 (fun v wx => v = .bool (atB ldhB s k) ∧ w = wx)
    case first =>
      go_wp2_with (first | (go_at_call 23; refine (spec_IsLetter _ _).mono ?_; rintro e w' ⟨rfl, rfl⟩) | (go_at_call 24; refine (spec_IsDigit _ _).mono ?_; rintro e w' ⟨rfl, rfl⟩))
      all_goals (go_meet; refine ⟨congrArg Value.bool ?_, rfl⟩; first | (simp [atB, ldhB, alnB, *]; done) | (simp_all [atB, ldhB, alnB]; done) | (rw [Bool.eq_iff_iff]; simp_all [atB, ldhB, alnB]; done) | (rw [Bool.eq_iff_iff]; simp_all [atB, ldhB, alnB]; omega))
    case rest =>
      obtain ⟨rfl, rfl⟩ := hcut
      cases hB : atB ldhB s k with
      | true =>
        have hlt := atB_lt hB
        have HY := Lib.hid ((scan_yes hB).symm.trans HR.out)
        clear hB
        go_wp2
        go_roundg (gk - 1)
        case measure => omega
        case rel => exact ⟨k + 1, by omega, by omega, by go_num, HY, rfl⟩
      | false =>
        have hk : scan ldhB s.data.toList i = k := by rw [← HR.out, scan_no hB]
        have hin := scan_inside ldhB s _ i rfl
        rw [hk] at HE hin
        clear hB HR hk
        by_cases h1 : k = i
        · have HK : Hid (N = -1) := Lib.hid (by rw [HE.out, h1]; unfold okAt; simp)
          clear hin
          subst h1
          go_wp2_with (fail)
          go_ret
          exact ⟨ret_int HK.out.symm, rfl⟩
        have e0 : ((k : Int) == (i : Int)) = false := beq_eq_false_iff_ne.2 (by omega)
        by_cases h2 : k - i ≤ 63
        · obtain ⟨hi1, ha1⟩ := hin i (by omega) (by omega)
          obtain ⟨hi2, ha2⟩ := hin (k - 1) (by omega) (by omega)
          have e1 := dash_aln ha1
          have e2 := dash_aln ha2
          have e3 : ¬ 63 < (k : Int) - (i : Int) := by omega
          clear hin ha1 ha2
          have HK : Hid (N = if alnB (s[i].toNat : Int) && alnB (s[k - 1].toNat : Int) then (k : Int) else -1) := Lib.hid (by
            rw [HE.out]; unfold okAt
            rw [atB_of hi1, atB_of hi2, show decide (i < k) = true by simp; omega, show decide (k ≤ i + 63) = true by simp; omega]; rfl)
          cases hb1 : alnB (s[i].toNat : Int) with
          | true =>
            cases hb2 : alnB (s[k - 1].toNat : Int) with
            | true =>
              rw [hb1, Bool.not_true] at e1
              rw [hb2, Bool.not_true] at e2
              rw [hb1, hb2] at HK
              clear hb1 hb2
              go_wp2_with (fail)
              go_ret
              exact ⟨ret_int HK.out.symm, rfl⟩
            | false =>
              rw [hb1, Bool.not_true] at e1
              rw [hb2, Bool.not_false] at e2
              rw [hb1, hb2] at HK
              clear hb1 hb2
              go_wp2_with (fail)
              go_ret
              exact ⟨ret_int HK.out.symm, rfl⟩
          | false =>
            rw [hb1, Bool.not_false] at e1
            rw [hb1] at HK
            clear hb1 e2
            go_wp2_with (fail)
            go_ret
            exact ⟨ret_int HK.out.symm, rfl⟩
        · have HK : Hid (N = -1) := Lib.hid (by rw [HE.out]; unfold okAt; rw [show decide (k ≤ i + 63) = false by simp; omega]; simp)
          clear hin
          go_wp2_with (fail)
          go_ret
          exact ⟨ret_int HK.out.symm, rfl⟩
end Go.Proofs.Ytpdpkggojlpklaa
