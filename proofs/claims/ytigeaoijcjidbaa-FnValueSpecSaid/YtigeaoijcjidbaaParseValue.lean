/- The package's reading of a value, and of a value behind an equals sign. -/
import Derived.Test.YtigeaoijcjidbaaValue
import Derived.Test.YtigeaoijcjidbaaOnly
namespace Go.Proofs.Ytigeaoijcjidbaa
open Go.RowKit
theorem unq_in : ∀ c : Int, unqB c = !inB [32, 9, 10, 34, 39, 61, 60, 62, 96] c := by
  intro c; rw [Bool.eq_iff_iff]; simp [unqB, spaceB, inB]; omega
theorem scan_tail (p : Int → Bool) (s : ByteArray) (i : Nat) : scan p (s.extract i s.size).data.toList 0 + i = scan p s.data.toList i := by
  rw [Lib.extract_data, List.take_of_length_le (by simp)]; unfold scan; simp; omega
/-- what the package's reading of a value gives -/
def valueRes (s : ByteArray) (i : Nat) : Value :=
  match valEnd s i with
  | some e => .tuple #[.string (s.extract i e), .int .i64 (e : Int), .bool true]
  | none => .tuple #[.string ⟨#[]⟩, .int .i64 0, .bool false]
theorem valueRes_some {s : ByteArray} {i e : Nat} (h : valEnd s i = some e) : valueRes s i = .tuple #[.string (s.extract i e), .int .i64 (e : Int), .bool true] := by unfold valueRes; rw [h]
theorem valueRes_none {s : ByteArray} {i : Nat} (h : valEnd s i = none) : valueRes s i = .tuple #[.string ⟨#[]⟩, .int .i64 0, .bool false] := by unfold valueRes; rw [h]
theorem quote_index (s : ByteArray) (i : Nat) (hi : i < s.size) :
    Lib.indexByte (s.extract (i + 1) s.size).data.toList s[i] = if scan (fun d => d != (s[i].toNat : Int)) s.data.toList (i + 1) < s.size then ((scan (fun d => d != (s[i].toNat : Int)) s.data.toList (i + 1) : Nat) : Int) - ((i : Int) + 1) else -1 := by
  rw [indexByte_scan]
  have h := scan_tail (fun d => d != (s[i].toNat : Int)) s (i + 1)
  have hl : (s.extract (i + 1) s.size).data.toList.length = s.size - (i + 1) := by rw [Lib.extract_data]; simp
  rw [hl, ← h]
  generalize scan (fun d => d != (s[i].toNat : Int)) (s.extract (i + 1) s.size).data.toList 0 = n
  by_cases hn : n < s.size - (i + 1)
  · rw [if_pos hn, if_pos (by omega)]; omega
  · rw [if_neg hn, if_neg (by omega)]
theorem plain_index (s : ByteArray) (k : Nat) (hk : k < s.size) : decide (Lib.indexByte [32, 9, 10, 34, 39, 61, 60, 62, 96] s[k] < 0) = unqB (s[k].toNat : Int) := by
  rw [index_neg, unq_in]
theorem ret3_eq {x y : ByteArray} {a b : Int} {c : Bool} (h1 : x = y) (h2 : a = b) : Ending.returned (.tuple #[.string x, .int .i64 a, .bool c]) = Ending.returned (.tuple #[.string y, .int .i64 b, .bool c]) := by rw [h1, h2]
def SomeValue (w : World) (v : Value) (e : Ending) (w' : World) : Prop := e = .returned v ∧ ∃ n, w' = w.drewN n
set_option maxHeartbeats 2000000 in
theorem md_parseAttrValue (s : ByteArray) (i : Nat) (w : World) (hs : s.size ≤ 900) (hi : i ≤ s.size) :
    Calls Try.prog 101 #[.string s, .int .i64 i] w (SomeValue w (valueRes s i)) := by
  obtain ⟨V, hV⟩ : ∃ V, V = valueRes s i := ⟨_, rfl⟩
  have HV := Lib.hid hV; rw [← hV]; clear hV
  by_cases hlt : i < s.size
  · by_cases hq : (s[i].toNat : Int) = 34 ∨ (s[i].toNat : Int) = 39
    · have HE := Lib.hid (show valEnd s i = quoteEnd s i (s[i].toNat : Int) by unfold valEnd; rw [dif_pos hlt, if_pos hq])
      have hsl := scan_size (fun d => d != (s[i].toNat : Int)) s (i + 1) (by omega)
      have hge := le_scan (fun d => d != (s[i].toNat : Int)) s.data.toList (i + 1)
      have HC := Lib.hid (fun w : World => Try.strings_IndexByte (s.extract (i + 1) s.size) (s[i].toNat : Int) w)
      rw [toUInt8_toNat, quote_index s i hlt] at HC
      have HU := Lib.hid (show unqB (s[i].toNat : Int) = false by rcases hq with h | h <;> rw [h] <;> rfl)
      unfold quoteEnd at HE
      generalize scan (fun d => d != (s[i].toNat : Int)) s.data.toList (i + 1) = K at *
      have HQ := Lib.hid hq
      by_cases hK : K < s.size
      · rw [if_pos hK] at HC HE
        go_enter Try.func101, Try.ntmps101
        go_upto_region 1 with (fail)
        go_cut [25] from 10 to 25 (fun v wx => v = .bool true ∧ w = wx)
        case first =>
          go_wp2
          all_goals (go_meet; refine ⟨congrArg Value.bool ?_, rfl⟩; first | rfl | (have hQ := HQ.out; go_light; simp_all; done))
        case rest =>
          obtain ⟨rfl, rfl⟩ := hcut
          clear hq
          go_wp2
          go_quiet ((go_at_call 53; exact Calls.quiet_of_same (HC.out _)))
          go_wp2
          go_ret3
          exact ⟨(ret3_eq (c := true) (congrArg (s.extract i) (show i + 1 + (K - (i + 1)) + 1 = K + 1 by omega)) (show (i : Int) + 1 + ((K : Int) - ((i : Int) + 1)) + 1 = ((K + 1 : Nat) : Int) by omega)).trans (congrArg Ending.returned (HV.out.trans (valueRes_some HE.out)).symm), _, rfl⟩
      · rw [if_neg hK] at HC HE
        go_enter Try.func101, Try.ntmps101
        go_upto_region 1 with (fail)
        go_cut [25] from 10 to 25 (fun v wx => v = .bool true ∧ w = wx)
        case first =>
          go_wp2
          all_goals (go_meet; refine ⟨congrArg Value.bool ?_, rfl⟩; first | rfl | (have hQ := HQ.out; go_light; simp_all; done))
        case rest =>
          obtain ⟨rfl, rfl⟩ := hcut
          clear hq
          have hpn := plain_index s i hlt
          rw [HU.out] at hpn
          have hge0 : ¬ Lib.indexByte [32, 9, 10, 34, 39, 61, 60, 62, 96] s[i] < 0 := by simpa using hpn
          clear hpn
          go_wp2
          go_quiet ((go_at_call 53; exact Calls.quiet_of_same (HC.out _)))
          go_wp2
          go_loopg [9] 0 (fun _ j wx => j = .int .i64 i ∧ ∃ n, wx = w.drewN n)
          case atStart => exact ⟨rfl, _, rfl⟩
          case round =>
            obtain ⟨rfl, n, rfl⟩ := hrel
            go_wp2_with (go_at_call 53; refine (Try.strings_IndexByte _ _ _).mono ?_; rintro e w' ⟨rfl, rfl⟩; rw [toUInt8_toNat])
            go_ret3
            exact ⟨congrArg Ending.returned (HV.out.trans (valueRes_none HE.out)).symm, _, rfl⟩
    · have HE := Lib.hid (show valEnd s i = plainEnd s i by unfold valEnd; rw [dif_pos hlt, if_neg hq])
      have hq1 : ((s[i].toNat : Int) == 34) = false := beq_eq_false_iff_ne.2 (fun h => hq (Or.inl h))
      have hq2 : ((s[i].toNat : Int) == 39) = false := beq_eq_false_iff_ne.2 (fun h => hq (Or.inr h))
      clear hq
      go_enter Try.func101, Try.ntmps101
      go_wp2_with (fail)
      go_loopg [9] (s.size - i) (fun g j wx => ∃ k : Nat, i ≤ k ∧ k + g = s.size ∧ j = .int .i64 k ∧ Hid (scan unqB s.data.toList k = scan unqB s.data.toList i) ∧ w = wx)
      case atStart => exact ⟨i, by omega, by omega, rfl, Lib.hid rfl, rfl⟩
      case round =>
        obtain ⟨k, hk, hkg, rfl, HR, rfl⟩ := hrel
        go_upto_region 7 with (fail)
        go_cut [57] from 47 to 57 (fun v wx => v = .bool (atB unqB s k) ∧ w = wx)
        case first =>
          by_cases hkl : k < s.size
          · have hpn := plain_index s k hkl
            have HA := Lib.hid (atB_of (p := unqB) hkl)
            cases hu : unqB (s[k].toNat : Int) with
            | true =>
              rw [hu] at hpn
              have hneg : Lib.indexByte [32, 9, 10, 34, 39, 61, 60, 62, 96] s[k] < 0 := by simpa using hpn
              have HU := Lib.hid hu; clear hu hpn
              go_wp2_with (go_at_call 53; refine (Try.strings_IndexByte _ _ _).mono ?_; rintro e w' ⟨rfl, rfl⟩; rw [toUInt8_toNat])
              go_meet
              exact ⟨congrArg Value.bool (by rw [HA.out, HU.out]), rfl⟩
            | false =>
              rw [hu] at hpn
              have hneg : ¬ Lib.indexByte [32, 9, 10, 34, 39, 61, 60, 62, 96] s[k] < 0 := by simpa using hpn
              have HU := Lib.hid hu; clear hu hpn
              go_wp2_with (go_at_call 53; refine (Try.strings_IndexByte _ _ _).mono ?_; rintro e w' ⟨rfl, rfl⟩; rw [toUInt8_toNat])
              go_meet
              exact ⟨congrArg Value.bool (by rw [HA.out, HU.out]; simpa using hneg), rfl⟩
          · have HA := Lib.hid (atB_off (p := unqB) hkl)
            go_wp2_with (fail)
            go_meet
            exact ⟨congrArg Value.bool HA.out.symm, rfl⟩
        case rest =>
          obtain ⟨rfl, rfl⟩ := hcut
          cases hB : atB unqB s k with
          | true =>
            have hkl := atB_lt hB
            go_wp2
            go_roundg (gk - 1)
            case measure => omega
            case rel => exact ⟨k + 1, by omega, by omega, by go_num, Lib.hid ((scan_yes hB).symm.trans HR.out), rfl⟩
          | false =>
            have HK := Lib.hid ((scan_no hB).symm.trans HR.out)
            by_cases hki : k = i
            · subst hki
              have HN := Lib.hid (show valEnd s k = none by rw [HE.out, plainEnd, if_pos HK.out.symm])
              go_wp2
              go_ret3
              exact ⟨congrArg Ending.returned (HV.out.trans (valueRes_none HN.out)).symm, 0, rfl⟩
            · have hne : (i : Int) < (k : Int) := by omega
              have HN := Lib.hid (show valEnd s i = some k by rw [HE.out, plainEnd, ← HK.out, if_neg hki])
              clear hki
              go_wp2
              go_ret3
              exact ⟨congrArg Ending.returned (HV.out.trans (valueRes_some HN.out)).symm, 0, rfl⟩
  · have HN := Lib.hid (show valEnd s i = none by unfold valEnd; rw [dif_neg hlt])
    go_enter Try.func101, Try.ntmps101
    go_wp2_with (fail)
    go_loopg [9] 0 (fun _ j wx => j = .int .i64 i ∧ w = wx)
    case atStart => exact ⟨rfl, rfl⟩
    case round =>
      obtain ⟨rfl, rfl⟩ := hrel
      go_wp2
      go_ret3
      exact ⟨congrArg Ending.returned (HV.out.trans (valueRes_none HN.out)).symm, 0, rfl⟩
end Go.Proofs.Ytigeaoijcjidbaa
