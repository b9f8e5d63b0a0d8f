/- Beginnings of texts; the package's reading of domains. -/
import Derived.Test.YtbbgdcfbpgmjbaaGreatDoorSearchPlain
import Derived.Test.YtbbgdcfbpgmjbaaGreatDoorBytes
import Derived.Test.YtbbgdcfbpgmjbaaGreatDoorShelf
import Derived.Deep.LoopGhost
import Derived.Lib.Hide
namespace Go.Proofs.YtbbgdcfbpgmjbaaGreatDoor
open Go.RowKit
/-- the text begins with the other one -/
def hasPre (a b : ByteArray) : Bool := b.data.toList.isPrefixOf a.data.toList
theorem pre_short {a b : ByteArray} (h : ¬ b.size ≤ a.size) : hasPre a b = false := by
  unfold hasPre
  cases hp : b.data.toList.isPrefixOf a.data.toList with
  | false => rfl
  | true =>
    have := (List.isPrefixOf_iff_prefix.1 hp).length_le
    simp at this; omega
theorem pre_test {a b : ByteArray} (h : b.size ≤ a.size) : ((a.extract 0 b.size).toList == b.toList) = hasPre a b := by
  have := piece_test a b 0 (by omega)
  rw [Nat.zero_add, List.drop_zero] at this
  exact this
theorem stringslite_HasPrefix (a b : ByteArray) (w : World) : Calls Tryz.prog 33 #[.string a, .string b] w fun e w' => e = .returned (.bool (hasPre a b)) ∧ w = w' := by
  by_cases h : b.size ≤ a.size
  · have HP := Lib.hid (pre_test h)
    go_enter Tryz.func33, Tryz.ntmps33
    go_wp2_with (fail)
    go_ret
    exact ⟨ret_bool HP.out, rfl⟩
  · have HP := Lib.hid (pre_short h)
    go_enter Tryz.func33, Tryz.ntmps33
    go_wp2_with (fail)
    go_ret
    exact ⟨ret_bool HP.out.symm, rfl⟩
theorem strings_HasPrefix (a b : ByteArray) (w : World) : Calls Tryz.prog 28 #[.string a, .string b] w fun e w' => e = .returned (.bool (hasPre a b)) ∧ w = w' := by
  have H := Lib.hid (stringslite_HasPrefix a b w)
  go_enter Tryz.func28, Tryz.ntmps28
  go_wp2_with (go_at_call 33; refine H.out.mono ?_; rintro e w' ⟨rfl, rfl⟩)
  go_ret
  exact ⟨rfl, rfl⟩

/-- 'a.b' and a blank stand at place a of the text, which ends there -/
structure DomAt (T : ByteArray) (a : Nat) : Prop where
  size : T.size = a + 4
  short : T.size ≤ 1000
  c0 : ∀ h : a < T.size, T[a] = 97
  c1 : ∀ h : a + 1 < T.size, T[a + 1] = 46
  c2 : ∀ h : a + 2 < T.size, T[a + 2] = 98
  c3 : ∀ h : a + 3 < T.size, T[a + 3] = 32
set_option maxHeartbeats 1000000 in
theorem md_parseValidDomain (T : ByteArray) (a b : Nat) (w : World) (hT : DomAt T a) (hb : w.cell? ⟨b, 0, none⟩ = some (.string T)) (hc : w.cell? ⟨b, 1, none⟩ = some (.int .i64 0)) :
    Calls Tryz.prog 34 #[.pointer (some ⟨b, 0, none⟩), .int .i64 a] w fun e w' => e = .returned (.tuple #[.int .i64 3, .bool true]) ∧ w = w' := by
  have hs := hT.size
  have hsh := hT.short
  have e0 := hT.c0 (by omega); have e1 := hT.c1 (by omega); have e2 := hT.c2 (by omega); have e3 := hT.c3 (by omega)
  have HL := Lib.hid (fun c w => md_isLDH c w)
  have l0 : ldhB 97 = true := by decide
  have l2 : ldhB 98 = true := by decide
  have l3 : ldhB 32 = false := by decide
  clear hT
  go_enter Tryz.func34, Tryz.ntmps34
  go_wp2_with (fail)
  go_loopg [6, 7] 4 (fun g i d wx => ∃ k : Nat, k + g = 4 ∧ k ≤ 3 ∧ i = .int .i64 ((a + k : Nat) : Int) ∧ d = .int .i64 (if 2 ≤ k then 1 else 0) ∧ w = wx)
  case atStart => exact ⟨0, by omega, by omega, rfl, rfl, rfl⟩
  case round =>
    obtain ⟨k, hk, hk3, rfl, rfl, rfl⟩ := hrel
    have h4 : k = 0 ∨ k = 1 ∨ k = 2 ∨ k = 3 := by omega
    rcases h4 with rfl | rfl | rfl | rfl
    · simp only [Nat.add_zero]
      go_wp2_with (go_at_call 27; refine (HL.out _ _).mono ?_; rintro e w' ⟨rfl, rfl⟩)
      go_roundg (gk - 1)
      case measure => omega
      case rel => exact ⟨1, by omega, by omega, by go_num, rfl, rfl⟩
    · go_wp2_with (fail)
      go_roundg (gk - 1)
      case measure => omega
      case rel => exact ⟨2, by omega, by omega, by go_num, rfl, rfl⟩
    · go_wp2_with (go_at_call 27; refine (HL.out _ _).mono ?_; rintro e w' ⟨rfl, rfl⟩)
      go_roundg (gk - 1)
      case measure => omega
      case rel => exact ⟨3, by omega, by omega, by go_num, rfl, rfl⟩
    · go_wp2_with (go_at_call 27; refine (HL.out _ _).mono ?_; rintro e w' ⟨rfl, rfl⟩)
      have h3 : (a : Int) + 3 - a = 3 := by omega
      rw [h3]
      go_ret2
      exact ⟨rfl, rfl⟩
end Go.Proofs.YtbbgdcfbpgmjbaaGreatDoor
