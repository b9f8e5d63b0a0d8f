/- The laws' conditions on titles: no number of a character begins, no blank line. -/
import Derived.Test.YtigeaoijcjidbaaDoorTitlePlain
import Derived.Test.YtigeaoijcjidbaaDoorBytes
import Derived.Test.YtigeaoijcjidbaaDoorStripPlain
import Derived.Deep.LoopGhost
import Derived.Deep.DeepCutAuto
import Derived.Deep.Light
namespace Go.Proofs.YtigeaoijcjidbaaDoor
open Go.RowKit
/-- no number of a character begins in the text -/
def NoNum (s : ByteArray) : Prop := ∀ (k : Nat) (h : k + 1 < s.size), (s[k].toNat : Int) = 38 → (s[k + 1].toNat : Int) = 35 → False
def NoNumTo (s : ByteArray) (n : Nat) : Prop := ∀ (k : Nat) (h : k + 1 < s.size), k < n → (s[k].toNat : Int) = 38 → (s[k + 1].toNat : Int) = 35 → False
theorem num_piece (s : ByteArray) (k : Nat) (h : k + 1 < s.size) : ((s.extract k (k + 2)).toList == [38, 35]) = true ↔ (s[k].toNat : Int) = 38 ∧ (s[k + 1].toNat : Int) = 35 := by
  rw [beq_iff_eq, Lib.toList_data, Lib.extract_data, drop_cons s k (by omega), drop_cons s (k + 1) h, show k + 2 - k = 2 by omega, List.take_succ_cons, List.take_succ_cons, List.take_zero]
  constructor
  · intro e; injection e with e1 e2; injection e2 with e2 _; rw [e1, e2]; exact ⟨rfl, rfl⟩
  · rintro ⟨e1, e2⟩; rw [u8_of (n := 38) e1 (by decide), u8_of (n := 35) e2 (by decide)]; rfl
set_option maxHeartbeats 1000000 in
theorem spec_until_num (s : ByteArray) (w : World) (hs : s.size ≤ 1000) : Calls Tryd.prog 27 #[.string s, .string ⟨#[]⟩, .string ⟨#[38, 35]⟩] w fun e w' => ∃ n : Nat, e = .returned (.int .i64 n) ∧ Hid (n = 0 → NoNum s) ∧ w = w' := by
  go_enter Tryd.func27, Tryd.ntmps27
  go_wp2_with (fail)
  go_loopg [7] (s.size + 1) (fun g j wx => ∃ k : Nat, k + g = s.size + 1 ∧ j = .int .i64 k ∧ Hid (NoNumTo s k) ∧ w = wx)
  case atStart => exact ⟨0, by omega, rfl, Lib.hid (fun k _ h => by omega), rfl⟩
  case round =>
    obtain ⟨k, hkg, rfl, HK, rfl⟩ := hrel
    by_cases hk : k + 2 ≤ s.size
    · have HP := Lib.hid (num_piece s k (by omega))
      cases hp : ((s.extract k (k + 2)).toList == [38, 35]) with
      | true =>
        go_wp2_with (fail)
        go_ret
        exact ⟨k + 2, ret_int (by omega), Lib.hid (fun h => by omega), rfl⟩
      | false =>
        have HS : Hid (NoNumTo s (k + 1)) := Lib.hid (by
          intro j hj hjk h1 h2
          rcases Nat.lt_or_ge j k with h | h
          · exact HK.out j hj h h1 h2
          · obtain rfl : j = k := by omega
            rw [(HP.out.2 ⟨h1, h2⟩)] at hp; cases hp)
        go_wp2_with (fail)
        go_roundg (s.size - k)
        case measure => omega
        case rel => exact ⟨k + 1, by omega, by go_num, HS, rfl⟩
    · have HS : Hid (NoNum s) := Lib.hid (fun j hj h1 h2 => HK.out j hj (by omega) h1 h2)
      go_wp2_with (fail)
      go_ret
      exact ⟨0, rfl, Lib.hid (fun _ => HS.out), rfl⟩
theorem spec_Until_num (s : ByteArray) (w : World) (hs : s.size ≤ 1000) : Calls Tryd.prog 21 #[.string s, .string ⟨#[]⟩, .string ⟨#[38, 35]⟩] w fun e w' => ∃ n : Nat, e = .returned (.int .i64 n) ∧ Hid (n = 0 → NoNum s) ∧ w = w' := by
  have H := Lib.hid (spec_until_num s w hs)
  go_enter Tryd.func21, Tryd.ntmps21
  go_wp2_with (go_at_call 27; refine H.out.mono ?_; rintro e w' ⟨n, rfl, hn, rfl⟩)
  go_ret
  exact ⟨n, rfl, hn, rfl⟩
theorem laws_numbered (s : ByteArray) (w : World) (hs : s.size ≤ 1000) : Calls Tryd.prog 10 #[.string s] w fun e w' => ∃ b : Bool, e = .returned (.bool b) ∧ Hid (b = false → NoNum s) ∧ w = w' := by
  have H := Lib.hid (spec_Until_num s w hs)
  go_enter Tryd.func10, Tryd.ntmps10
  go_wp2_with (go_at_call 21; refine H.out.mono ?_; rintro e w' ⟨n, rfl, hn, rfl⟩)
  go_ret
  exact ⟨_, rfl, Lib.hid (fun h => hn.out (by rw [decide_eq_false_iff_not] at h; omega)), rfl⟩
theorem laws_gap (s : ByteArray) (w : World) (hs : s.size ≤ 1000) : Calls Tryd.prog 11 #[.string s] w fun e w' => ∃ b : Bool, e = .returned (.bool b) ∧ Hid (b = false → NoGap s) ∧ w = w' := by
  go_enter Tryd.func11, Tryd.ntmps11
  go_wp2_with (fail)
  go_loopg [3, 7] s.size (fun g v j wx => ∃ k : Nat, k + g = s.size ∧ v = .bool (bAt s k) ∧ j = .int .i64 k ∧ Hid (∀ (i : Nat) (h : i < s.size), i < k → (s[i].toNat : Int) = 10 → bAt s i = false) ∧ w = wx)
  case atStart => exact ⟨0, by omega, rfl, rfl, Lib.hid (fun i _ h => by omega), rfl⟩
  case round =>
    obtain ⟨k, hkg, rfl, rfl, HK, rfl⟩ := hrel
    by_cases hk : k < s.size
    · have hbs : bAt s (k + 1) = (((s[k].toNat : Int) == 10) || (bAt s k && ((s[k].toNat : Int) == 32))) := by rw [bAt, atB_of hk, atB_of hk]
      have HS : Hid (¬ ((s[k].toNat : Int) = 10 ∧ bAt s k = true) → ∀ (i : Nat) (h : i < s.size), i < k + 1 → (s[i].toNat : Int) = 10 → bAt s i = false) := Lib.hid (by
        intro hno i hi hik hc
        rcases Nat.lt_or_ge i k with h1 | h1
        · exact HK.out i hi h1 hc
        · obtain rfl : i = k := by omega
          cases hb : bAt s i with
          | false => rfl
          | true => exact absurd ⟨hc, hb⟩ hno)
      cases hb : bAt s k with
      | true =>
        rw [hb, Bool.true_and] at hbs
        rw [hb] at HS
        by_cases h10 : (s[k].toNat : Int) = 10
        · have hc : ((s[k].toNat : Int) == 10) = true := beq_iff_eq.2 h10
          clear hb hbs HS h10 HK
          go_wp2_with (fail)
          go_ret
          exact ⟨true, rfl, Lib.hid (fun h => by cases h), rfl⟩
        · have hc : ((s[k].toNat : Int) == 10) = false := beq_eq_false_iff_ne.2 h10
          have HT := Lib.hid (HS.out (fun h => h10 h.1))
          rw [hc, Bool.false_or] at hbs
          have HB := Lib.hid hbs
          clear hb hbs HS h10 HK
          go_wp2_with (fail)
          all_goals
            go_roundg (s.size - (k + 1))
            case measure => omega
            case rel => exact ⟨k + 1, by omega, by rw [HB.out], by go_num, HT, rfl⟩
      | false =>
        rw [hb, Bool.false_and, Bool.or_false] at hbs
        have HT := Lib.hid (HS.out (fun h => by rw [hb] at h; cases h.2))
        have HB := Lib.hid hbs
        clear hb hbs HS HK
        cases hc : ((s[k].toNat : Int) == 10)
        all_goals
          rw [hc] at HB
          go_wp2_with (fail)
          go_roundg (s.size - (k + 1))
          case measure => omega
          case rel => exact ⟨k + 1, by omega, by rw [HB.out], by go_num, HT, rfl⟩
    · obtain rfl : k = s.size := by omega
      go_wp2_with (fail)
      go_ret
      exact ⟨false, rfl, Lib.hid (fun _ i hi h10 => HK.out i hi hi h10), rfl⟩
end Go.Proofs.YtigeaoijcjidbaaDoor
