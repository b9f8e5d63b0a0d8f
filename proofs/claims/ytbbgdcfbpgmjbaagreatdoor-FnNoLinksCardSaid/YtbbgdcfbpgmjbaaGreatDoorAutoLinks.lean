/- The thin package's links of a plain text. -/
import Derived.Test.YtbbgdcfbpgmjbaaGreatDoorLinked
import Derived.Test.YtbbgdcfbpgmjbaaGreatDoorBlk
namespace Go.Proofs.YtbbgdcfbpgmjbaaGreatDoor
open Go.RowKit
theorem md_ZZAutoLinks_none (s : ByteArray) (w : World) (hs : s.size ≤ 1000) (H : ∀ k (h : k < s.size), Calm (s[k].toNat : Int)) :
    Calls Tryz.prog 9 #[.string s] w fun e w' => e = .returned (.slice none 0 0) ∧ Below w.heap.size w w' := by
  have HS := Lib.hid (md_zzState w)
  have HP := Lib.hid (fun v w => md_autoLinkPlain_none v s w hs H)
  clear H
  unfold StateMade at HS
  go_enter Tryz.func9, Tryz.ntmps9
  go_wp2_with (first
    | (go_at_call 14; refine HS.out.mono ?_; rintro e w2 ⟨b, rfl, h1, h2, h3, h4, h5⟩)
    | (go_at_call 15; refine (HP.out _ _).mono ?_; rintro e w3 ⟨rfl, h6⟩))
  go_ret
  exact ⟨rfl, h5.trans (h6.mono h5.size)⟩
theorem md_ZZAutoLinks_one (T : ByteArray) (m : Nat) (w : World) (hT : UrlAt T (m + 1)) (H : ∀ k (h : k < T.size), k ≤ m → Calm (T[k].toNat : Int)) (hm : ∀ h : m < T.size, letB (T[m].toNat : Int) = false) :
    Calls Tryz.prog 9 #[.string T] w (Linked (T.extract 0 (m + 1)) (T.extract (m + 1) (m + 1 + 7) ++ T.extract (m + 1 + 7) (m + 1 + 10)) (T.extract (m + 1) (m + 1 + 10)) (T.extract (m + 1 + 10) (m + 1 + 11)) w) := by
  have HS := Lib.hid (md_zzState w)
  have HP := Lib.hid (fun v w => md_autoLinkPlain_one v T m w hT H hm)
  clear H hT hm
  unfold StateMade at HS
  unfold Linked at *
  generalize T.extract 0 (m + 1) = s1 at *
  generalize T.extract (m + 1) (m + 1 + 7) ++ T.extract (m + 1 + 7) (m + 1 + 10) = u at *
  generalize T.extract (m + 1) (m + 1 + 10) = x at *
  generalize T.extract (m + 1 + 10) (m + 1 + 11) = r at *
  go_enter Tryz.func9, Tryz.ntmps9
  go_wp2_with (first
    | (go_at_call 14; refine HS.out.mono ?_; rintro e w2 ⟨b, rfl, h1, h2, h3, h4, h5⟩)
    | (go_at_call 15; refine (HP.out _ _).mono ?_; rintro e w3 ⟨b, cap, p, k, g, h, q, rfl, h6, h7⟩))
  go_ret
  exact ⟨b, cap, p, k, g, h, q, rfl, h6, h5.trans (h7.mono h5.size)⟩
theorem impl_inlines_nil (w : World) : Calls Tryz.prog 8 #[.slice none 0 0] w fun e w' => e = .returned (.slice none 0 0) ∧ w' = w := by
  go_enter Tryz.func8, Tryz.ntmps8
  go_wp2_with (fail)
  go_loopg [3, 8] 0 (fun gg o j wx => o = .slice none 0 0 ∧ j = .int .i64 0 ∧ wx = w)
  case atStart => exact ⟨rfl, rfl, rfl⟩
  case round =>
    obtain ⟨rfl, rfl, rfl⟩ := hrel
    go_wp2_with (fail)
    go_ret
    exact ⟨rfl, rfl⟩
theorem impl_AutoLinks_none (s : ByteArray) (w : World) (hs : s.size ≤ 1000) (H : ∀ k (h : k < s.size), Calm (s[k].toNat : Int)) :
    Calls Tryz.prog 5 #[.string s] w fun e w' => e = .returned (.slice none 0 0) ∧ Below w.heap.size w w' := by
  have HP := Lib.hid (fun w => md_ZZAutoLinks_none s w hs H)
  have HI := Lib.hid (fun w => impl_inlines_nil w)
  clear H
  go_enter Tryz.func5, Tryz.ntmps5
  go_wp2_with (first
    | (go_at_call 9; refine (HP.out _).mono ?_; rintro e w2 ⟨rfl, h5⟩)
    | (go_at_call 8; refine (HI.out _).mono ?_; rintro e w3 ⟨rfl, rfl⟩))
  go_ret
  exact ⟨rfl, h5⟩
/-- three nodes are told -/
def NodesTold (s u x t : ByteArray) (w : World) (e : Ending) (w' : World) : Prop := ∃ b cap, e = .returned (.slice (some ⟨b, 0, none⟩) 3 cap) ∧ NodesIn s u x t b w' ∧ Below w.heap.size w w'
theorem impl_AutoLinks_one (T : ByteArray) (m : Nat) (w : World) (hT : UrlAt T (m + 1)) (H : ∀ k (h : k < T.size), k ≤ m → Calm (T[k].toNat : Int)) (hm : ∀ h : m < T.size, letB (T[m].toNat : Int) = false) :
    Calls Tryz.prog 5 #[.string T] w (NodesTold (T.extract 0 (m + 1)) (T.extract (m + 1) (m + 1 + 7) ++ T.extract (m + 1 + 7) (m + 1 + 10)) (T.extract (m + 1) (m + 1 + 10)) (T.extract (m + 1 + 10) (m + 1 + 11)) w) := by
  have HP := Lib.hid (fun w => md_ZZAutoLinks_one T m w hT H hm)
  have HI := Lib.hid (fun s u x t a c p k g h q w hx => impl_inlines_three s u x t a c p k g h q w hx)
  clear H hT hm
  unfold NodesTold
  unfold Linked at *
  generalize T.extract 0 (m + 1) = s1 at *
  generalize T.extract (m + 1) (m + 1 + 7) ++ T.extract (m + 1 + 7) (m + 1 + 10) = u at *
  generalize T.extract (m + 1) (m + 1 + 10) = x at *
  generalize T.extract (m + 1 + 10) (m + 1 + 11) = r at *
  go_enter Tryz.func5, Tryz.ntmps5
  go_wp2_with (first
    | (go_at_call 9; refine (HP.out _).mono ?_; rintro e w2 ⟨b, cap, p, k, g, h, q, rfl, h6, h7⟩)
    | (go_at_call 8; refine (HI.out _ _ _ _ _ _ _ _ _ _ _ _ h6).mono ?_; rintro e w3 ⟨b3, cap3, rfl, h8, h9⟩))
  go_ret
  exact ⟨b3, cap3, rfl, h8, h7.trans (h9.mono h7.size)⟩
end Go.Proofs.YtbbgdcfbpgmjbaaGreatDoor
