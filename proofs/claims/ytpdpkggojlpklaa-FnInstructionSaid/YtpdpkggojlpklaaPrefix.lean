/- Beginnings of texts, and the reference's first place of an end behind a beginning. -/
import Derived.Test.YtpdpkggojlpklaaSearch
import Derived.Deep.LoopGhost
import Derived.Deep.Light
namespace Go.Proofs.Ytpdpkggojlpklaa
open Go.RowKit
/-- the text begins with the other one -/
def hasPre (a b : ByteArray) : Bool := b.data.toList.isPrefixOf a.data.toList
theorem pre_short {a b : ByteArray} (h : ¬ b.size ≤ a.size) : hasPre a b = false := by
  unfold hasPre
  cases hp : b.data.toList.isPrefixOf a.data.toList with
  | false => rfl
  | true =>
    have := (List.isPrefixOf_iff_prefix.1 hp).length_le
    simp at this; omega
theorem pre_test {a b : ByteArray} (h : b.size ≤ a.size) : ((a.extract 0 b.size).toList == b.toList) = hasPre a b := by
  have := piece_test a b 0 (by omega)
  rw [Nat.zero_add, List.drop_zero] at this
  exact this
theorem stringslite_HasPrefix (a b : ByteArray) (w : World) : Calls Try.prog 38 #[.string a, .string b] w fun e w' => e = .returned (.bool (hasPre a b)) ∧ w = w' := by
  by_cases h : b.size ≤ a.size
  · have HP := Lib.hid (pre_test h)
    go_enter Try.func38, Try.ntmps38
    go_wp2_with (fail)
    go_ret
    exact ⟨ret_bool HP.out, rfl⟩
  · have HP := Lib.hid (pre_short h)
    go_enter Try.func38, Try.ntmps38
    go_wp2_with (fail)
    go_ret
    exact ⟨ret_bool HP.out.symm, rfl⟩
theorem strings_HasPrefix (a b : ByteArray) (w : World) : Calls Try.prog 34 #[.string a, .string b] w fun e w' => e = .returned (.bool (hasPre a b)) ∧ w = w' := by
  have H := Lib.hid (stringslite_HasPrefix a b w)
  go_enter Try.func34, Try.ntmps34
  go_wp2_with (go_at_call 38; refine H.out.mono ?_; rintro e w' ⟨rfl, rfl⟩)
  go_ret
  exact ⟨rfl, rfl⟩
theorem laws_headed (a b : ByteArray) (w : World) : Calls Try.prog 6 #[.string a, .string b] w fun e w' => e = .returned (.bool (hasPre a b)) ∧ w = w' := by
  by_cases h : b.size ≤ a.size
  · have HP := Lib.hid (pre_test h)
    go_enter Try.func6, Try.ntmps6
    go_wp2_with (fail)
    go_ret
    exact ⟨ret_bool HP.out, rfl⟩
  · have HP := Lib.hid (pre_short h)
    go_enter Try.func6, Try.ntmps6
    go_wp2_with (fail)
    go_ret
    exact ⟨ret_bool HP.out.symm, rfl⟩
/-- the place behind the first end behind the beginning; 0, if there is none -/
def untilOf (s p q : ByteArray) : Nat := if hasPre s p then (match findSub q.data.toList (s.data.toList.drop p.size) with | some j => p.size + j + q.size | none => 0) else 0
set_option maxHeartbeats 1000000 in
theorem spec_until (s p q : ByteArray) (w : World) (hs : s.size ≤ 100000) (hq : q.size ≤ 1000) (hq0 : 0 < q.size) : Calls Try.prog 15 #[.string s, .string p, .string q] w fun e w' => e = .returned (.int .i64 (untilOf s p q)) ∧ w = w' := by
  by_cases h : p.size ≤ s.size
  · have HP := pre_test h
    have hne : ((s.extract 0 p.size).toList != p.toList) = !hasPre s p := by rw [← HP]; rfl
    cases hh : hasPre s p with
    | true =>
      rw [hh] at HP hne
      have HU : Hid (untilOf s p q = match findSub q.data.toList (s.data.toList.drop p.size) with | some j => p.size + j + q.size | none => 0) := Lib.hid (by unfold untilOf; rw [hh]; rfl)
      generalize untilOf s p q = R at *
      go_enter Try.func15, Try.ntmps15
      go_wp2_with (fail)
      go_loopg [7] (s.size + 1 - p.size) (fun g j wx => ∃ k : Nat, p.size ≤ k ∧ k + g = s.size + 1 ∧ j = .int .i64 k ∧ Hid (findSub q.data.toList (s.data.toList.drop p.size) = (findSub q.data.toList (s.data.toList.drop k)).map (· + (k - p.size))) ∧ w = wx)
      case atStart => exact ⟨p.size, Nat.le_refl _, by omega, rfl, Lib.hid (by simp), rfl⟩
      case round =>
        obtain ⟨k, hk0, hkg, rfl, HK, rfl⟩ := hrel
        by_cases hk : k + q.size ≤ s.size
        · have HT := piece_test s q k hk
          cases hz : q.data.toList.isPrefixOf (s.data.toList.drop k) with
          | true =>
            rw [hz] at HT
            have HX : Hid (R = k + q.size) := Lib.hid (by
              rw [HU.out, HK.out, findSub_yes hz]
              show p.size + (0 + (k - p.size)) + q.size = k + q.size
              omega)
            clear hz HK HU
            go_wp2_with (fail)
            go_ret
            exact ⟨ret_int (by rw [HX.out]; omega), rfl⟩
          | false =>
            rw [hz] at HT
            have hks : k < s.size := by omega
            have HX : Hid (findSub q.data.toList (s.data.toList.drop p.size) = (findSub q.data.toList (s.data.toList.drop (k + 1))).map (· + (k + 1 - p.size))) := Lib.hid (by
              rw [drop_cons s k hks] at hz
              rw [HK.out, drop_cons s k hks, findSub_no hz, Option.map_map]
              congr 1
              funext x
              show x + 1 + (k - p.size) = x + (k + 1 - p.size)
              omega)
            clear hz HK
            go_wp2_with (fail)
            go_roundg (s.size - k)
            case measure => omega
            case rel => exact ⟨k + 1, by omega, by omega, by go_num, HX, rfl⟩
        · have HX : Hid (R = 0) := Lib.hid (by rw [HU.out, HK.out, findSub_short (by simp; omega)]; rfl)
          clear HK HU
          go_wp2_with (fail)
          go_ret
          exact ⟨ret_int (by rw [HX.out]; rfl), rfl⟩
    | false =>
      rw [hh] at HP hne
      have HU : Hid (untilOf s p q = 0) := Lib.hid (by unfold untilOf; rw [hh]; rfl)
      generalize untilOf s p q = R at *
      go_enter Try.func15, Try.ntmps15
      go_wp2_with (fail)
      go_ret
      exact ⟨ret_int (by rw [HU.out]; rfl), rfl⟩
  · have HU : Hid (untilOf s p q = 0) := Lib.hid (by unfold untilOf; rw [pre_short h]; rfl)
    generalize untilOf s p q = R at *
    go_enter Try.func15, Try.ntmps15
    go_wp2_with (fail)
    go_ret
    exact ⟨ret_int (by rw [HU.out]; rfl), rfl⟩
end Go.Proofs.Ytpdpkggojlpklaa
