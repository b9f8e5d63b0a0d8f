/- The package's links of a plain text: none in a calm text. -/
import Derived.Test.YtbbgdcfbpgmjbaaGreatDoorProto
import Derived.Test.YtbbgdcfbpgmjbaaGreatDoorMade
import Derived.ScopeJumps
import Derived.Test.YtbbgdcfbpgmjbaaGreatDoorWritten
namespace Go.Proofs.YtbbgdcfbpgmjbaaGreatDoor
open Go.RowKit
/-- at these bytes no address begins -/
structure Calm (c : Int) : Prop where
  a : ¬ c = 64
  h : ¬ c = 104
  m : ¬ c = 109
  x : ¬ c = 120
  w : ¬ c = 119
set_option maxHeartbeats 4000000 in
set_option maxRecDepth 100000 in
theorem md_autoLinkPlain_none (v : Value) (s : ByteArray) (w : World) (hs : s.size ≤ 1000) (H : ∀ k (h : k < s.size), Calm (s[k].toNat : Int)) :
    Calls Tryz.prog 15 #[v, .string s] w fun e w' => e = .returned (.slice none 0 0) ∧ Below w.heap.size w w' := by
  have H := Lib.hid H
  have hnil : ∀ W, (binOp .eql 29 (.slice none 0 0) (.slice none 0 0)).run Tryz.prog W = .ok (.bool true) W := fun W => Lib.run_eql_slice_nil_nil W _ _ Tryz.underlying29
  go_enter Tryz.func15, Tryz.ntmps15
  go_wp2
  go_step3
  go_wp2
  go_step3
  go_wp2
  go_loopg [1, 6, 7] s.size (fun gg st o i wx => ∃ k : Nat, k + gg = s.size ∧ st = .string s ∧ o = .slice none 0 0 ∧ i = .int .i64 k ∧ Below w.heap.size w wx)
  case atStart => exact ⟨0, by omega, rfl, rfl, rfl, (Below.refl _ _).alloc (Nat.le_refl _) _⟩
  case round =>
    obtain ⟨k, hk, rfl, rfl, rfl, hb⟩ := hrel
    by_cases hlt : k < s.size
    · obtain ⟨h1, h2, h3, h4, h5⟩ := H.out k hlt
      obtain ⟨c, hc⟩ : ∃ c : Int, (s[k].toNat : Int) = c := ⟨_, rfl⟩
      rw [hc] at h1 h2 h3 h4 h5
      go_wp2
      go_roundg (gk - 1)
      case measure => omega
      case rel => exact ⟨k + 1, by omega, rfl, rfl, by go_num, hb⟩
    · go_wp2
      rw [Exit.noGoto_ret]
      go_ret
      exact ⟨rfl, hb⟩
end Go.Proofs.YtbbgdcfbpgmjbaaGreatDoor
