/- The reference's names of characters, its search for a piece, the laws' conditions on titles. -/
import Derived.Test.YtigeaoijcjidbaaDoorTitlePlain
import Derived.Test.YtigeaoijcjidbaaDoorBytes
import Derived.Test.YtigeaoijcjidbaaDoorStripPlain
import Derived.Deep.LoopGhost
import Derived.Deep.DeepCutAuto
import Derived.Deep.Light
namespace Go.Proofs.YtigeaoijcjidbaaDoor
open Go.RowKit
theorem spec_named (n : ByteArray) (w : World) : Calls Tryd.prog 20 #[.string n] w fun e w' => e = .returned (.string ⟨(namedOf n.data.toList).toArray⟩) ∧ w = w' := by
  obtain ⟨V, hV⟩ : ∃ V, V = namedOf n.data.toList := ⟨_, rfl⟩
  have hV2 : V = namedOf n.toList := by rw [hV, Lib.toList_data]
  rw [← hV]
  clear hV
  have HV := Lib.hid hV2
  clear hV2
  cases h1 : n.toList == [97, 109, 112] with
  | true =>
    have HE : Hid (V = [38]) := Lib.hid (by rw [HV.out, namedOf, if_pos h1])
    go_enter Tryd.func20, Tryd.ntmps20
    go_wp2_with (fail)
    go_ret
    exact ⟨ret_str (by rw [HE.out]), rfl⟩
  | false =>
    cases h2 : n.toList == [108, 116] with
    | true =>
      have HE : Hid (V = [60]) := Lib.hid (by rw [HV.out, namedOf, if_neg (by simp [h1]), if_pos h2])
      go_enter Tryd.func20, Tryd.ntmps20
      go_wp2_with (fail)
      go_ret
      exact ⟨ret_str (by rw [HE.out]), rfl⟩
    | false =>
      cases h3 : n.toList == [103, 116] with
      | true =>
        have HE : Hid (V = [62]) := Lib.hid (by rw [HV.out, namedOf, if_neg (by simp [h1]), if_neg (by simp [h2]), if_pos h3])
        go_enter Tryd.func20, Tryd.ntmps20
        go_wp2_with (fail)
        go_ret
        exact ⟨ret_str (by rw [HE.out]), rfl⟩
      | false =>
        cases h4 : n.toList == [113, 117, 111, 116] with
        | true =>
          have HE : Hid (V = [34]) := Lib.hid (by rw [HV.out, namedOf, if_neg (by simp [h1]), if_neg (by simp [h2]), if_neg (by simp [h3]), if_pos h4])
          go_enter Tryd.func20, Tryd.ntmps20
          go_wp2_with (fail)
          go_ret
          exact ⟨ret_str (by rw [HE.out]), rfl⟩
        | false =>
          have HE : Hid (V = []) := Lib.hid (by rw [HV.out, namedOf, if_neg (by simp [h1]), if_neg (by simp [h2]), if_neg (by simp [h3]), if_neg (by simp [h4])])
          go_enter Tryd.func20, Tryd.ntmps20
          go_wp2_with (fail)
          go_ret
          exact ⟨ret_str (by rw [HE.out]), rfl⟩
theorem alnN_at (s : ByteArray) (k : Nat) : scan alnB s.data.toList (k + 1) = k + 1 + alnN (s.data.toList.drop (k + 1)) := rfl
/-- the name behind an & at a place, by places -/
theorem name_at (s : ByteArray) (k : Nat) : (s.data.toList.drop (k + 1)).take (alnN (s.data.toList.drop (k + 1))) = (s.extract (k + 1) (scan alnB s.data.toList (k + 1))).data.toList := by
  rw [Lib.extract_data, alnN_at, Nat.add_sub_cancel_left]
theorem semi_at (s : ByteArray) (k : Nat) : (s.data.toList.drop (k + 1))[alnN (s.data.toList.drop (k + 1))]? = some 59 ↔ atB (fun c => c == 59) s (scan alnB s.data.toList (k + 1)) = true := by
  rw [List.getElem?_drop, ← alnN_at]
  generalize scan alnB s.data.toList (k + 1) = E
  by_cases h : E < s.size
  · rw [atB_of h, beq_iff_eq, List.getElem?_eq_getElem (by simpa using h)]
    constructor
    · intro e; rw [show s[E] = 59 from Option.some.inj e]; rfl
    · intro e; exact congrArg some (u8_of (n := 59) e (by decide))
  · rw [atB_off h, List.getElem?_eq_none (by simp; omega)]; simp
theorem bad_at (s : ByteArray) (k : Nat) : BadN (s.data.toList.drop (k + 1)) ↔ k + 1 < scan alnB s.data.toList (k + 1) ∧ atB (fun c => c == 59) s (scan alnB s.data.toList (k + 1)) = true ∧ namedOf (s.extract (k + 1) (scan alnB s.data.toList (k + 1))).data.toList = [] := by
  unfold BadN
  rw [semi_at, name_at, alnN_at]
  constructor
  · rintro ⟨a, b, c⟩; exact ⟨by omega, b, c⟩
  · rintro ⟨a, b, c⟩; exact ⟨by omega, b, c⟩
theorem entS_at (s : ByteArray) (k : Nat) : entS (s.data.toList.drop (k + 1)) = if k + 1 < scan alnB s.data.toList (k + 1) ∧ atB (fun c => c == 59) s (scan alnB s.data.toList (k + 1)) = true ∧ namedOf (s.extract (k + 1) (scan alnB s.data.toList (k + 1))).data.toList ≠ [] then some (namedOf (s.extract (k + 1) (scan alnB s.data.toList (k + 1))).data.toList, scan alnB s.data.toList (k + 1) - k) else none := by
  unfold entS
  have e : scan alnB s.data.toList (k + 1) - k = alnN (s.data.toList.drop (k + 1)) + 1 := by rw [alnN_at]; omega
  have hc : (0 < alnN (s.data.toList.drop (k + 1)) ∧ (s.data.toList.drop (k + 1))[alnN (s.data.toList.drop (k + 1))]? = some 59 ∧ namedOf ((s.data.toList.drop (k + 1)).take (alnN (s.data.toList.drop (k + 1)))) ≠ []) ↔ (k + 1 < scan alnB s.data.toList (k + 1) ∧ atB (fun c => c == 59) s (scan alnB s.data.toList (k + 1)) = true ∧ namedOf (s.extract (k + 1) (scan alnB s.data.toList (k + 1))).data.toList ≠ []) := by
    rw [semi_at, name_at, alnN_at]
    constructor
    · rintro ⟨a, b, c⟩; exact ⟨by omega, b, c⟩
    · rintro ⟨a, b, c⟩; exact ⟨by omega, b, c⟩
  by_cases h : k + 1 < scan alnB s.data.toList (k + 1) ∧ atB (fun c => c == 59) s (scan alnB s.data.toList (k + 1)) = true ∧ namedOf (s.extract (k + 1) (scan alnB s.data.toList (k + 1))).data.toList ≠ []
  · rw [if_pos h, if_pos (hc.2 h), name_at, e]
  · rw [if_neg h, if_neg (fun h' => h (hc.1 h'))]
theorem empty_iff (l : List UInt8) : (⟨l.toArray⟩ : ByteArray).toList.isEmpty = true ↔ l = [] := by
  rw [Lib.toList_data, List.isEmpty_iff]
/-- every name ahead of the place is known -/
def KnownTo (s : ByteArray) (k : Nat) : Prop := ∀ (j : Nat) (h : j < s.size), j < k → (s[j].toNat : Int) = 38 → ¬ BadN (s.data.toList.drop (j + 1))
theorem KnownTo.succ {s : ByteArray} {k : Nat} (h : KnownTo s k) (hk : ∀ h : k < s.size, (s[k].toNat : Int) = 38 → ¬ BadN (s.data.toList.drop (k + 1))) : KnownTo s (k + 1) := by
  intro j hj hjk hc
  rcases Nat.lt_or_ge j k with h1 | h1
  · exact h j hj h1 hc
  · obtain rfl : j = k := by omega
    exact hk hj hc
set_option maxHeartbeats 2000000 in
set_option maxRecDepth 100000 in
theorem spec_OtherName (s : ByteArray) (w : World) (hs : s.size ≤ 1000) : Calls Tryd.prog 9 #[.string s] w fun e w' => ∃ b : Bool, e = .returned (.bool b) ∧ Hid (b = false → KnownTo s s.size) ∧ w = w' := by
  go_enter Tryd.func9, Tryd.ntmps9
  go_wp2_with (fail)
  go_loopg [3] s.size (fun g j wx => ∃ k : Nat, k + g = s.size ∧ j = .int .i64 k ∧ Hid (KnownTo s k) ∧ w = wx)
  case atStart => exact ⟨0, by omega, rfl, Lib.hid (fun j _ h => by omega), rfl⟩
  case round =>
    obtain ⟨k, hkg, rfl, HK, rfl⟩ := hrel
    by_cases hk : k < s.size
    · by_cases ha : (s[k].toNat : Int) = 38
      · have hab : ((s[k].toNat : Int) != 38) = false := by simp [ha]
        have HS := Lib.hid (fun hb => HK.out.succ (fun _ _ => hb))
        have HB := Lib.hid (bad_at s k)
        clear ha
        have hle := scan_size alnB s (k + 1) (by omega)
        have hge := le_scan alnB s.data.toList (k + 1)
        go_wp2_with (fail)
        go_loopg [4] (s.size - (k + 1)) (fun g j wx => ∃ m : Nat, k + 1 ≤ m ∧ m + g = s.size ∧ j = .int .i64 m ∧ Hid (scan alnB s.data.toList m = scan alnB s.data.toList (k + 1)) ∧ w = wx)
        case atStart => exact ⟨k + 1, Nat.le_refl _, by omega, by go_num, Lib.hid rfl, rfl⟩
        case round =>
          obtain ⟨m, hm, hmg, rfl, HM, rfl⟩ := hrel
          go_upto_region 6 with (fail)
          go_cut [32] from 17 to 32 (fun v wx => v = .bool (atB alnB s m) ∧ w = wx)
          case first =>
            clear HK HS HB HM
            go_wp2_with (first
              | (go_at_call 18; refine (spec_IsLetter _ _).mono ?_; rintro e w' ⟨rfl, rfl⟩)
              | (go_at_call 19; refine (spec_IsDigit _ _).mono ?_; rintro e w' ⟨rfl, rfl⟩))
            all_goals (go_meet; refine ⟨congrArg Value.bool ?_, rfl⟩; go_light; first | (simp [atB, alnB, *]; done) | (simp_all [atB, alnB]; done))
          case rest =>
            obtain ⟨rfl, rfl⟩ := hcut
            cases hB : atB alnB s m with
            | true =>
              have hlt := atB_lt hB
              have HY := Lib.hid (scan_yes hB)
              clear hB
              go_wp2
              go_roundg (s.size - (m + 1))
              case measure => omega
              case rel => exact ⟨m + 1, by omega, by omega, by go_num, Lib.hid (HY.out.symm.trans HM.out), rfl⟩
            | false =>
              have hE := HM.out.symm.trans (scan_no hB)
              clear hB
              have HB2 := HB
              rw [hE] at HB2 hle hge
              clear HB HM
              have HN := Lib.hid (fun (w : World) => spec_named (s.extract (k + 1) m) w)
              have HZ := Lib.hid (empty_iff (namedOf (s.extract (k + 1) m).data.toList))
              have hno : ¬ (k + 1 < m ∧ atB (fun c => c == 59) s m = true ∧ namedOf (s.extract (k + 1) m).data.toList = []) → KnownTo s (k + 1) := fun h => HS.out (fun hb => h (HB2.out.1 hb))
              have HO := Lib.hid hno
              clear hno HS HB2 HK hE
              generalize namedOf (s.extract (k + 1) m).data.toList = nm at *
              generalize (⟨nm.toArray⟩ : ByteArray) = V at *
              by_cases h1 : k + 1 < m
              · cases h2 : atB (fun c => c == 59) s m with
                | true =>
                  have hms := atB_lt h2
                  have h59 : ((s[m].toNat : Int) == 59) = true := by rw [← h2, atB_of hms]
                  cases hz : V.toList.isEmpty with
                  | true =>
                    go_wp2_with (go_at_call 20; refine (HN.out _).mono ?_; rintro e w' ⟨rfl, rfl⟩)
                    go_ret
                    exact ⟨true, rfl, Lib.hid (fun h => by cases h), rfl⟩
                  | false =>
                    have HX := Lib.hid (HO.out (fun h => by rw [HZ.out.2 h.2.2] at hz; cases hz))
                    go_wp2_with (go_at_call 20; refine (HN.out _).mono ?_; rintro e w' ⟨rfl, rfl⟩)
                    go_roundg (s.size - (k + 1))
                    case measure => omega
                    case rel => exact ⟨k + 1, by omega, by go_num, HX, rfl⟩
                | false =>
                  have HX := Lib.hid (HO.out (fun h => by rw [h2] at h; cases h.2.1))
                  by_cases hms : m < s.size
                  · have h59 : ((s[m].toNat : Int) == 59) = false := by rw [← h2, atB_of hms]
                    go_wp2_with (fail)
                    go_roundg (s.size - (k + 1))
                    case measure => omega
                    case rel => exact ⟨k + 1, by omega, by go_num, HX, rfl⟩
                  · go_wp2_with (fail)
                    go_roundg (s.size - (k + 1))
                    case measure => omega
                    case rel => exact ⟨k + 1, by omega, by go_num, HX, rfl⟩
              · have HX := Lib.hid (HO.out (fun h => h1 h.1))
                go_wp2_with (fail)
                go_roundg (s.size - (k + 1))
                case measure => omega
                case rel => exact ⟨k + 1, by omega, by go_num, HX, rfl⟩
      · have hab : ((s[k].toNat : Int) != 38) = true := by simpa using ha
        have HS := Lib.hid (HK.out.succ (fun _ h => absurd h ha))
        clear ha HK
        go_wp2_with (fail)
        go_roundg (s.size - (k + 1))
        case measure => omega
        case rel => exact ⟨k + 1, by omega, by go_num, HS, rfl⟩
    · obtain rfl : k = s.size := by omega
      go_wp2_with (fail)
      go_ret
      exact ⟨false, rfl, Lib.hid (fun _ => HK.out), rfl⟩
end Go.Proofs.YtigeaoijcjidbaaDoor
