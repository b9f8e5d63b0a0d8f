/- The package's door to addresses of electronic mail; the thin package's AutoLinkEmail. -/
import Derived.Test.YtpdpkggojlpklaaMail
import Derived.Test.YtpdpkggojlpklaaLink
namespace Go.Proofs.Ytpdpkggojlpklaa
open Go.RowKit
theorem mailRes_some (E : Nat) (s : ByteArray) (i : Nat) (w : World) : mailRes (some E) s i w = MailMade s i E w := rfl
theorem mailRes_none (s : ByteArray) (i : Nat) (w : World) : mailRes none s i w = NoMail w := rfl
theorem md_ZZMail_some (s : ByteArray) (i E : Nat) (w : World) (hs : s.size ≤ 1000) (hi : i < s.size) (hc : (s[i].toNat : Int) = 60) (hE : mailEnd (mailL (s.data.toList.drop (i + 1))) s.size = some E) :
    Calls Try.prog 16 #[.string s, .int .i64 i] w (MailMade s i E w) := by
  have H := md_parseAutoLinkEmail s i w hs hi hc
  rw [hE, mailRes_some] at H
  have H := Lib.hid H
  clear hE hc
  go_enter Try.func16, Try.ntmps16
  go_wp2_with (go_at_call 22; refine H.out.mono ?_; rintro e w' ⟨b, rfl, hb1, hb2, hb3, hb⟩)
  go_ret3
  exact ⟨b, rfl, hb1, hb2, hb3, hb⟩
theorem md_ZZMail_none (s : ByteArray) (i : Nat) (w : World) (hs : s.size ≤ 1000) (hi : i < s.size) (hc : (s[i].toNat : Int) = 60) (hE : mailEnd (mailL (s.data.toList.drop (i + 1))) s.size = none) :
    Calls Try.prog 16 #[.string s, .int .i64 i] w (NoMail w) := by
  have H := md_parseAutoLinkEmail s i w hs hi hc
  rw [hE, mailRes_none] at H
  have H := Lib.hid H
  clear hE hc
  go_enter Try.func16, Try.ntmps16
  go_wp2_with (go_at_call 22; refine H.out.mono ?_; rintro e w' ⟨rfl, hb⟩)
  go_ret3
  exact ⟨rfl, hb⟩
set_option maxRecDepth 100000 in
theorem impl_Mail_none (s : ByteArray) (i : Nat) (w : World) (hs : s.size ≤ 1000) (hi : i < s.size) (hc : (s[i].toNat : Int) = 60) (hE : mailEnd (mailL (s.data.toList.drop (i + 1))) s.size = none) :
    Calls Try.prog 10 #[.string s, .int .i64 i] w fun e w' => e = .returned (ThreeOf (.agg (nodeCells 0 ⟨#[]⟩ false)) 0 false) ∧ Below w.heap.size w w' := by
  have HZ := Lib.hid (fun w => md_ZZMail_none s i w hs hi hc hE)
  clear hc hE
  go_enter Try.func10, Try.ntmps10
  go_wp2_with (first
    | (go_at_call 16; refine (HZ.out _).mono ?_; rintro e w2 ⟨rfl, hb⟩; have hrow := row_kept hb (heap_alloc_new w _) (by simp); have hbel := bel_two ((Below.refl _ _).alloc (Nat.le_refl _) _) hb (Nat.le_refl _))
    | (go_at_call 13; refine (impl_one_no _ _ _).mono ?_; unfold ThreeOf; rintro e w3 ⟨rfl, hb2⟩; replace hrow := row_kept hb2 hrow (by have := hb.size; simp at this; omega); replace hbel := bel_two hbel hb2 (Nat.le_refl _)))
  case h_1.isFalse h1 h2 => unfold nodeOf at h1; injection h1 with h1; subst h1; exact absurd (nodeCells_size _ _ _) h2
  case h_2 h1 => exact (h1 _ rfl).elim
  rename_i x cs h1 h2
  unfold nodeOf at h1; injection h1 with h1; subst h1
  have hst := store_node (nodeCells 0 ⟨#[]⟩ false) (nodeCells_size _ _ _) (nodeCells_one _ _ _) w3 w.heap.size _ hrow rfl
  rw [hst]
  go_wp2
  have hl := load_struct (P := Try.prog) (ty := 28) (n := 16) (by kernel_rfl) (w3.setRow w.heap.size (nodeCells 0 ⟨#[]⟩ false)) w.heap.size 28 (nodeCells 0 ⟨#[]⟩ false) (0, 0) (setRow_heap _ _ _ _ _ _ hrow) (nodeCells_size _ _ _)
  exact bodyPost_ret (v := ThreeOf (.agg (nodeCells 0 ⟨#[]⟩ false)) 0 false) (by simp [results, asAddr, ThreeOf, hl]) rfl ⟨rfl, bel_setRow hbel (Nat.le_refl _) _⟩
set_option maxRecDepth 100000 in
theorem impl_Mail_some (s : ByteArray) (i E : Nat) (w : World) (hs : s.size ≤ 1000) (hi : i < s.size) (hc : (s[i].toNat : Int) = 60) (hE : mailEnd (mailL (s.data.toList.drop (i + 1))) s.size = some E) :
    Calls Try.prog 10 #[.string s, .int .i64 i] w (OneMade (IsLink (mailtoM ++ s.extract (i + 1) E)) ((E : Int) + 1) w) := by
  have HZ := Lib.hid (fun w => md_ZZMail_some s i E w hs hi hc hE)
  have HI := Lib.hid (fun b w (hb : b < w.heap.size) hc hc1 => impl_inline_auto b (s.extract (i + 1) E) (mailtoM ++ s.extract (i + 1) E) w hb hc hc1)
  clear hc hE
  have HO := Lib.hid (fun v a w H => impl_one_any (IsLink (mailtoM ++ s.extract (i + 1) E)) (link_shape _) v a w H)
  have HS := Lib.hid (link_shape (mailtoM ++ s.extract (i + 1) E))
  unfold MailMade at HZ
  generalize IsLink (mailtoM ++ s.extract (i + 1) E) = Q at *
  go_enter Try.func10, Try.ntmps10
  go_wp2_with (first
    | (go_at_call 16; refine (HZ.out _).mono ?_; rintro e w2 ⟨b, rfl, hbb, hc, hc1, hb⟩; have hrow := row_kept hb (heap_alloc_new w _) (by simp); have hbel := bel_two ((Below.refl _ _).alloc (Nat.le_refl _) _) hb (Nat.le_refl _); have HC := Lib.hid hc; have HC1 := Lib.hid hc1; clear hc hc1)
    | (go_at_call 13; refine (HO.out _ _ _ (fun w' hw' => HI.out b w' (by have := hw'.size; omega) (by rw [hw'.cell hbb]; exact HC.out) (by rw [hw'.cell (p := ⟨b, 1, none⟩) hbb]; exact HC1.out))).mono ?_; unfold OneMade ThreeOf; rintro e w3 ⟨cs, hcs, rfl, hb2⟩; replace hrow := row_kept hb2 hrow (by have := hb.size; simp at this; omega); replace hbel := bel_two hbel hb2 (Nat.le_refl _); have HCS := Lib.hid hcs; clear hcs))
  case isFalse h2 => exact absurd (HS.out _ HCS.out).1 h2
  have hst := store_node _ (HS.out _ HCS.out).1 (HS.out _ HCS.out).2 w3 w.heap.size _ hrow rfl
  rw [hst]
  go_wp2
  have hl := load_struct (P := Try.prog) (ty := 28) (n := 16) (by kernel_rfl) (w3.setRow w.heap.size cs) w.heap.size 28 cs (0, 0) (setRow_heap _ _ _ _ _ _ hrow) (HS.out _ HCS.out).1
  exact bodyPost_ret (v := ThreeOf (.agg cs) ((E : Int) + 1) true) (by simp [results, asAddr, ThreeOf, hl]) rfl ⟨_, HCS.out, rfl, bel_setRow hbel (Nat.le_refl _) _⟩
end Go.Proofs.Ytpdpkggojlpklaa
