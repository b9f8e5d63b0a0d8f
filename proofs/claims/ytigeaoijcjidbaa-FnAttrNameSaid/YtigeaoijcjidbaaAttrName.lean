/- The names of attributes, as the package and the reference read them. -/
import Derived.Test.YtigeaoijcjidbaaTexts
import Derived.Deep.DeepCutAuto
import Derived.Deep.LoopGhost
namespace Go.Proofs.Ytigeaoijcjidbaa
open Go.RowKit

def startB (c : Int) : Bool := letB c || c == 95 || c == 58
def nameB (c : Int) : Bool := ldhB c || c == 95 || c == 46 || c == 58
theorem nameB_of_start {c : Int} (h : startB c = true) : nameB c = true := by simp [startB, nameB, ldhB, alnB] at *; rcases h with (h | h) | h <;> simp [h]

theorem md_parseAttrName_no (s : ByteArray) (i : Nat) (w : World) (hs : s.size ≤ maxLen) (hi : i < s.size) (hn : i + 1 < s.size → startB (s[i].toNat : Int) = false) :
    Calls Try.prog 76 #[.string s, .int .i64 i] w fun e w' => e = .returned (.tuple #[.string ⟨#[]⟩, .int .i64 0, .bool false]) ∧ w = w' := by
  unfold maxLen at hs
  by_cases h1 : i + 1 < s.size
  · have hn := hn h1
    simp only [startB, Bool.or_eq_false_iff] at hn
    obtain ⟨⟨n1, n2⟩, n3⟩ := hn
    go_enter Try.func76, Try.ntmps76
    go_wp2_with (go_at_call 80; refine (md_isLetter _ _).mono ?_; rintro e w' ⟨rfl, rfl⟩)
    go_ret3
    exact ⟨rfl, rfl⟩
  · go_enter Try.func76, Try.ntmps76
    go_wp2_with (go_at_call 80; refine (md_isLetter _ _).mono ?_; rintro e w' ⟨rfl, rfl⟩)
    go_ret3
    exact ⟨rfl, rfl⟩
set_option maxHeartbeats 400000 in
theorem md_parseAttrName_yes (s : ByteArray) (i : Nat) (w : World) (hs : s.size ≤ maxLen) (hi : i + 1 < s.size) (hn : startB (s[i].toNat : Int) = true) :
    Calls Try.prog 76 #[.string s, .int .i64 i] w fun e w' =>
      e = .returned (.tuple #[.string (s.extract i (scan nameB s.data.toList i)), .int .i64 (scan nameB s.data.toList i), .bool true]) ∧ w = w' := by
  unfold maxLen at hs
  have HN := Lib.hid (scan_step nameB s i (by omega) (nameB_of_start hn))
  have hns := Lib.hid hn
  clear hn
  go_enter Try.func76, Try.ntmps76
  go_upto_region 1 with (fail)
  go_cut [30] from 8 to 30 (fun v wx => v = .bool true ∧ w = wx)
  case first =>
    go_wp2_with (go_at_call 80; refine (md_isLetter _ _).mono ?_; rintro e w' ⟨rfl, rfl⟩)
    all_goals (go_meet; refine ⟨congrArg Value.bool ?_, rfl⟩; have hn := hns.out; simp [startB] at hn; first | rfl | (simp_all; done))
  case rest =>
    obtain ⟨rfl, rfl⟩ := hcut
    go_wp2
    go_loopg [7] (s.size - (i + 1)) (fun g j wx => ∃ k : Nat, i ≤ k ∧ k + g = s.size ∧ j = .int .i64 k ∧ Hid (scan nameB s.data.toList k = scan nameB s.data.toList i) ∧ w = wx)
    case atStart => exact ⟨i + 1, by omega, by omega, by go_num, Lib.hid HN.out.symm, rfl⟩
    case round =>
      obtain ⟨k, hk, hkg, rfl, HR, rfl⟩ := hrel
      go_upto_region 3 with (fail)
      go_cut [60] from 33 to 60 (fun v wx => v = .bool (atB nameB s k) ∧ w = wx)
      case first =>
        go_wp2_with (go_at_call 84; refine (md_isLDH _ _).mono ?_; rintro e w' ⟨rfl, rfl⟩)
        all_goals (go_meet; refine ⟨congrArg Value.bool ?_, rfl⟩; first | (simp [atB, nameB, *]; done) | (simp_all [atB, nameB]; done) | (rw [Bool.eq_iff_iff]; simp_all [atB, nameB]; done) | (rw [Bool.eq_iff_iff]; simp_all [atB, nameB]; omega))
      case rest =>
        obtain ⟨rfl, rfl⟩ := hcut
        cases hB : atB nameB s k with
        | true =>
          have hlt := atB_lt hB
          go_wp2
          go_roundg (gk - 1)
          case measure => omega
          case rel => exact ⟨k + 1, by omega, by omega, by go_num, Lib.hid ((scan_yes hB).symm.trans HR.out), rfl⟩
        | false =>
          have hk : k = scan nameB s.data.toList i := by rw [← HR.out, scan_no hB]
          go_wp2
          go_ret3
          rw [← hk]
          exact ⟨rfl, rfl⟩

def AttrNo (f : FuncId) : Prop := ∀ (s : ByteArray) (i : Nat) (w : World), s.size ≤ maxLen → i < s.size → (i + 1 < s.size → startB ((s.data.toList.getD i 0).toNat : Int) = false) →
  Calls Try.prog f #[.string s, .int .i64 i] w fun e w' => e = .returned (.tuple #[.string ⟨#[]⟩, .int .i64 0, .bool false]) ∧ w = w'
def AttrYes (f : FuncId) : Prop := ∀ (s : ByteArray) (i : Nat) (w : World), s.size ≤ maxLen → i + 1 < s.size → startB ((s.data.toList.getD i 0).toNat : Int) = true →
  Calls Try.prog f #[.string s, .int .i64 i] w fun e w' => e = .returned (.tuple #[.string (s.extract i (scan nameB s.data.toList i)), .int .i64 (scan nameB s.data.toList i), .bool true]) ∧ w = w'
theorem getD_byte (s : ByteArray) (i : Nat) (h : i < s.size) : s.data.toList.getD i 0 = s[i] := by
  rw [List.getD_eq_getElem?_getD, List.getElem?_eq_getElem (by simpa using h)]; rfl
theorem md_no : AttrNo 76 := fun s i w hs hi hn => md_parseAttrName_no s i w hs hi (fun h => by have := hn h; rwa [getD_byte s i hi] at this)
theorem md_yes : AttrYes 76 := fun s i w hs hi hn => md_parseAttrName_yes s i w hs hi (by rwa [getD_byte s i (by omega)] at hn)
theorem zz_no : AttrNo 50 := by
  intro s i w hs hi hn
  have H := Lib.hid (md_no s i w hs hi hn); clear hn
  go_enter Try.func50, Try.ntmps50
  go_wp2_with (go_at_call 76; refine H.out.mono ?_; rintro e w' ⟨rfl, rfl⟩)
  go_ret3
  exact ⟨rfl, rfl⟩
theorem zz_yes : AttrYes 50 := by
  intro s i w hs hi hn
  have H := Lib.hid (md_yes s i w hs hi hn); clear hn
  go_enter Try.func50, Try.ntmps50
  go_wp2_with (go_at_call 76; refine H.out.mono ?_; rintro e w' ⟨rfl, rfl⟩)
  go_ret3
  exact ⟨rfl, rfl⟩
theorem impl_no : AttrNo 16 := by
  intro s i w hs hi hn
  have H := Lib.hid (zz_no s i w hs hi hn); clear hn
  go_enter Try.func16, Try.ntmps16
  go_wp2_with (go_at_call 50; refine H.out.mono ?_; rintro e w' ⟨rfl, rfl⟩)
  go_ret3
  exact ⟨rfl, rfl⟩
theorem impl_yes : AttrYes 16 := by
  intro s i w hs hi hn
  have H := Lib.hid (zz_yes s i w hs hi hn); clear hn
  go_enter Try.func16, Try.ntmps16
  go_wp2_with (go_at_call 50; refine H.out.mono ?_; rintro e w' ⟨rfl, rfl⟩)
  go_ret3
  exact ⟨rfl, rfl⟩

/-- the end of the name of an attribute, as the reference has it -/
def nameEnd (s : ByteArray) (i : Nat) : Int := if atB startB s i then (scan nameB s.data.toList i : Int) else -1
set_option maxHeartbeats 400000 in
theorem spec_attrName (s : ByteArray) (i : Nat) (w : World) (hs : s.size ≤ maxLen) (hi : i ≤ s.size) :
    Calls Try.prog 51 #[.string s, .int .i64 i] w fun e w' => e = .returned (.int .i64 (nameEnd s i)) ∧ w = w' := by
  unfold maxLen at hs
  go_enter Try.func51, Try.ntmps51
  go_upto_region 1 with (fail)
  go_cut [27] from 5 to 27 (fun v wx => v = .bool (!atB startB s i) ∧ w = wx)
  case first =>
    go_wp2_with (go_at_call 25; refine (spec_IsLetter _ _).mono ?_; rintro e w' ⟨rfl, rfl⟩)
    all_goals (go_meet; refine ⟨congrArg Value.bool ?_, rfl⟩; first | (simp [atB, startB, *]; done) | (simp_all [atB, startB]; done) | (rw [Bool.eq_iff_iff]; simp_all [atB, startB]; done) | (rw [Bool.eq_iff_iff]; simp_all [atB, startB]; omega))
  case rest =>
    obtain ⟨rfl, rfl⟩ := hcut
    cases hB : atB startB s i with
    | false =>
      go_wp2
      go_ret
      exact ⟨ret_int (by simp [nameEnd, hB]), rfl⟩
    | true =>
      have HE : Hid (nameEnd s i = scan nameB s.data.toList i) := by simp [Hid, nameEnd, hB]
      go_wp2
      go_loopg [1] (s.size - i) (fun g j wx => ∃ k : Nat, i ≤ k ∧ k + g = s.size ∧ j = .int .i64 k ∧ Hid (scan nameB s.data.toList k = scan nameB s.data.toList i) ∧ w = wx)
      case atStart => exact ⟨i, by omega, by omega, rfl, Lib.hid rfl, rfl⟩
      case round =>
        obtain ⟨k, hk, hkg, rfl, HR, rfl⟩ := hrel
        go_upto_region 3 with (fail)
        go_cut [67] from 28 to 67 (fun v wx => v = .bool (atB nameB s k) ∧ w = wx)
        case first =>
          go_wp2_with (first | (go_at_call 25; refine (spec_IsLetter _ _).mono ?_; rintro e w' ⟨rfl, rfl⟩) | (go_at_call 26; refine (spec_IsDigit _ _).mono ?_; rintro e w' ⟨rfl, rfl⟩))
          all_goals (go_meet; refine ⟨congrArg Value.bool ?_, rfl⟩; first | (simp [atB, nameB, ldhB, alnB, *]; done) | (simp_all [atB, nameB, ldhB, alnB]; done) | (rw [Bool.eq_iff_iff]; simp_all [atB, nameB, ldhB, alnB]; done) | (rw [Bool.eq_iff_iff]; simp_all [atB, nameB, ldhB, alnB]; omega))
        case rest =>
          obtain ⟨rfl, rfl⟩ := hcut
          cases hB : atB nameB s k with
          | true =>
            have hlt := atB_lt hB
            go_wp2
            go_roundg (gk - 1)
            case measure => omega
            case rel => exact ⟨k + 1, by omega, by omega, by go_num, Lib.hid ((scan_yes hB).symm.trans HR.out), rfl⟩
          | false =>
            have hk : k = scan nameB s.data.toList i := by rw [← HR.out, scan_no hB]
            go_wp2
            go_ret
            exact ⟨ret_int (by rw [HE.out, ← hk]), rfl⟩
theorem spec_AttributeName (s : ByteArray) (i : Nat) (w : World) (hs : s.size ≤ maxLen) (hi : i ≤ s.size) :
    Calls Try.prog 17 #[.string s, .int .i64 i] w fun e w' => e = .returned (.int .i64 (nameEnd s i)) ∧ w = w' := by
  go_enter Try.func17, Try.ntmps17
  go_wp2_with (go_at_call 51; refine (spec_attrName s i _ hs hi).mono ?_; rintro e w' ⟨rfl, rfl⟩)
  go_ret
  exact ⟨rfl, rfl⟩
end Go.Proofs.Ytigeaoijcjidbaa
