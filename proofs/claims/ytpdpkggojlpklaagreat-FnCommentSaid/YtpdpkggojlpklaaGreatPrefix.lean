/- Beginnings of texts, and the reference's first place of an end behind a beginning. -/
import Derived.Test.YtpdpkggojlpklaaGreatSearch
import Derived.Deep.LoopGhost
import Derived.Deep.Light
namespace Go.Proofs.YtpdpkggojlpklaaGreat
open Go.RowKit
/-- the text begins with the other one -/
def hasPre (a b : ByteArray) : Bool := b.data.toList.isPrefixOf a.data.toList
theorem pre_short {a b : ByteArray} (h : ¬ b.size ≤ a.size) : hasPre a b = false := by
  unfold hasPre
  cases hp : b.data.toList.isPrefixOf a.data.toList with
  | false => rfl
  | true =>
    have := (List.isPrefixOf_iff_prefix.1 hp).length_le
    simp at this; omega
theorem pre_test {a b : ByteArray} (h : b.size ≤ a.size) : ((a.extract 0 b.size).toList == b.toList) = hasPre a b := by
  have := piece_test a b 0 (by omega)
  rw [Nat.zero_add, List.drop_zero] at this
  exact this
theorem stringslite_HasPrefix (a b : ByteArray) (w : World) : Calls Tryz.prog 10 #[.string a, .string b] w fun e w' => e = .returned (.bool (hasPre a b)) ∧ w = w' := by
  by_cases h : b.size ≤ a.size
  · have HP := Lib.hid (pre_test h)
    go_enter Tryz.func10, Tryz.ntmps10
    go_wp2_with (fail)
    go_ret
    exact ⟨ret_bool HP.out, rfl⟩
  · have HP := Lib.hid (pre_short h)
    go_enter Tryz.func10, Tryz.ntmps10
    go_wp2_with (fail)
    go_ret
    exact ⟨ret_bool HP.out.symm, rfl⟩
theorem strings_HasPrefix (a b : ByteArray) (w : World) : Calls Tryz.prog 6 #[.string a, .string b] w fun e w' => e = .returned (.bool (hasPre a b)) ∧ w = w' := by
  have H := Lib.hid (stringslite_HasPrefix a b w)
  go_enter Tryz.func6, Tryz.ntmps6
  go_wp2_with (go_at_call 10; refine H.out.mono ?_; rintro e w' ⟨rfl, rfl⟩)
  go_ret
  exact ⟨rfl, rfl⟩
/-- the place behind the first end behind the beginning; 0, if there is none -/
def untilOf (s p q : ByteArray) : Nat := if hasPre s p then (match findSub q.data.toList (s.data.toList.drop p.size) with | some j => p.size + j + q.size | none => 0) else 0
end Go.Proofs.YtpdpkggojlpklaaGreat
