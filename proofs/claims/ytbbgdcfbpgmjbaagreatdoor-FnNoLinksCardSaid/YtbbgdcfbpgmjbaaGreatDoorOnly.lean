/- The laws' word 'only': a text of bytes of an alphabet. -/
import Derived.Test.YtbbgdcfbpgmjbaaGreatDoorTexts
import Derived.Test.YtbbgdcfbpgmjbaaGreatDoorShelf
import Derived.Deep.LoopGhost
import Derived.Deep.DeepCutAuto
namespace Go.Proofs.YtbbgdcfbpgmjbaaGreatDoor
open Go.RowKit

/-- the byte stands in the list -/
def inB (cls : List UInt8) (c : Int) : Bool := cls.any fun b => (b.toNat : Int) == c
theorem toUInt8_toNat (b : UInt8) : ((b.toNat : Int).toNat).toUInt8 = b := by simp
theorem index_neg (cls : List UInt8) (b : UInt8) : decide (Lib.indexByte cls b < 0) = !inB cls (b.toNat : Int) := by
  induction cls with
  | nil => rfl
  | cons x l ih =>
    have hge := Lib.indexByte_ge l b
    rw [Lib.indexByte]
    by_cases hx : x = b
    · subst hx; simp [inB]
    · have hne : ¬ ((x.toNat : Int) = (b.toNat : Int)) := fun h => hx (UInt8.toNat_inj.1 (by omega))
      have hi : inB (x :: l) (b.toNat : Int) = inB l (b.toNat : Int) := by simp [inB, hne]
      rw [hi, ← ih]
      by_cases hm : Lib.indexByte l b = -1
      · simp [hx, hm]
      · rw [if_neg (by simpa using hx), if_neg (by simpa using hm)]
        rw [Bool.eq_iff_iff]; simp; omega
theorem laws_only (s cls : ByteArray) (most : Int) (w : World) (hs : s.size ≤ maxLen) : Calls Tryz.prog 4 #[.string s, .string cls, .int .i64 most] w fun e w' => e = .returned (.bool (fitB (inB cls.data.toList) s most)) ∧ w = w' := by
  unfold maxLen at hs
  by_cases hm : most < (s.size : Int)
  · go_enter Tryz.func4, Tryz.ntmps4
    go_wp2
    go_ret
    exact ⟨ret_bool (by unfold fitB; simp; omega), rfl⟩
  · go_enter Tryz.func4, Tryz.ntmps4
    go_wp2
    go_loopg [14] s.size (fun g j wx => ∃ k : Nat, k + g = s.size ∧ j = .int .i64 k ∧ Hid (allB (inB cls.data.toList) (s.data.toList.take k) = true) ∧ w = wx)
    case atStart => exact ⟨0, by omega, rfl, Lib.hid (allB_take_zero _ _), rfl⟩
    case round =>
      obtain ⟨k, hkg, rfl, HR, rfl⟩ := hrel
      by_cases hlt : k < s.size
      · have hc := index_neg cls.data.toList s[k]
        have HC := Lib.hid hc
        cases hB : inB cls.data.toList (s[k].toNat : Int) with
        | true =>
          rw [hB] at hc
          have hneg : ¬ Lib.indexByte cls.data.toList s[k] < 0 := by simpa using hc
          clear hc HC
          have HB := Lib.hid hB; clear hB
          go_wp2_with (go_at_call 7; refine (Tryz.strings_IndexByte _ _ _).mono ?_; rintro e w' ⟨rfl, rfl⟩; rw [toUInt8_toNat])
          go_roundg (gk - 1)
          case measure => omega
          case rel => exact ⟨k + 1, by omega, by go_num, Lib.hid (allB_take_succ _ s k hlt HR.out HB.out), rfl⟩
        | false =>
          rw [hB] at hc
          have hneg : Lib.indexByte cls.data.toList s[k] < 0 := by simpa using hc
          clear hc HC
          have HB := Lib.hid hB; clear hB
          go_wp2_with (go_at_call 7; refine (Tryz.strings_IndexByte _ _ _).mono ?_; rintro e w' ⟨rfl, rfl⟩; rw [toUInt8_toNat])
          go_ret
          exact ⟨ret_bool (by unfold fitB; rw [allB_bad _ s k hlt HB.out]; simp), rfl⟩
      · go_wp2
        go_ret
        exact ⟨ret_bool (by unfold fitB; rw [allB_end _ s k (by omega) HR.out]; simp; omega), rfl⟩
end Go.Proofs.YtbbgdcfbpgmjbaaGreatDoor
