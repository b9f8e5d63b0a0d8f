/- The thin package's word for an escape. -/
import Derived.Test.YtigeaoijcjidbaaTwo
namespace Go.Proofs.Ytigeaoijcjidbaa
open Go.RowKit
set_option maxRecDepth 100000 in
theorem impl_Escape_punct (s : ByteArray) (i : Nat) (w : World) (hs : s.size ≤ 1000) (hi : i + 1 < s.size) (hp : punctB (s[i + 1].toNat : Int) = true) :
    Calls Try.prog 47 #[.string s, .int .i64 i] w fun e w' => e = .returned (FourOf (nodeOf 20 (s.extract (i + 1) (i + 2)) true) i (i + 2) true) ∧ Below w.heap.size w w' := by
  have HZ := Lib.hid (fun w => md_ZZEscape_punct s i w hs hi hp)
  clear hp
  go_enter Try.func47, Try.ntmps47
  go_wp2_with (first
    | (go_at_call 74; refine (HZ.out _).mono ?_; rintro e w2 ⟨b, rfl, hbb, hc, hb⟩; have hrow := row_kept hb (heap_alloc_new w _) (by simp); have hbel := bel_two ((Below.refl _ _).alloc (Nat.le_refl _) _) hb (Nat.le_refl _))
    | (go_at_call 73; refine (impl_two_yes _ 20 (s.extract (i + 1) (i + 2)) true i (i + 2) _ (fun w' hw' => impl_inline_escaped b _ w' (by have := hw'.size; omega) (by rw [hw'.cell hbb]; exact hc))).mono ?_; unfold FourOf; rintro e w3 ⟨rfl, hb2⟩; replace hrow := row_kept hb2 hrow (by have := hb.size; simp at this; omega); replace hbel := bel_two hbel hb2 (Nat.le_refl _)))
  case h_1.isFalse h1 h2 => unfold nodeOf at h1; injection h1 with h1; subst h1; exact absurd (nodeCells_size _ _ _) h2
  case h_2 h1 => exact (h1 _ rfl).elim
  rename_i x cs h1 h2
  unfold nodeOf at h1; injection h1 with h1; subst h1
  have hst := store_node (nodeCells 20 (s.extract (i + 1) (i + 2)) true) (nodeCells_size _ _ _) (nodeCells_one _ _ _) w3 w.heap.size _ hrow rfl
  rw [hst]
  go_wp2
  have hl := load_struct (P := Try.prog) (ty := 44) (n := 16) (by kernel_rfl) (w3.setRow w.heap.size (nodeCells 20 (s.extract (i + 1) (i + 2)) true)) w.heap.size 44 (nodeCells 20 (s.extract (i + 1) (i + 2)) true) (0, 0) (setRow_heap _ _ _ _ _ _ hrow) (nodeCells_size _ _ _)
  exact bodyPost_ret (v := FourOf (.agg (nodeCells 20 (s.extract (i + 1) (i + 2)) true)) i (i + 2) true) (by simp [results, asAddr, FourOf, hl]) rfl ⟨rfl, bel_setRow hbel (Nat.le_refl _) _⟩
set_option maxRecDepth 100000 in
theorem impl_Escape_hard (s : ByteArray) (i : Nat) (w : World) (hs : s.size ≤ 1000) (hi : i + 1 < s.size) (hn : (s[i + 1].toNat : Int) = 10) :
    Calls Try.prog 47 #[.string s, .int .i64 i] w fun e w' => ∃ k : Nat, e = .returned (FourOf (nodeOf 22 ⟨#[]⟩ false) i k true) ∧ i + 2 ≤ k ∧ k ≤ s.size ∧ Below w.heap.size w w' := by
  have HZ := Lib.hid (fun w => md_ZZEscape_hard s i w hs hi hn)
  clear hn
  go_enter Try.func47, Try.ntmps47
  go_wp2_with (first
    | (go_at_call 74; refine (HZ.out _).mono ?_; rintro e w2 ⟨v, k, rfl, hk1, hk2, hb⟩; have hrow := row_kept hb (heap_alloc_new w _) (by simp); have hbel := bel_two ((Below.refl _ _).alloc (Nat.le_refl _) _) hb (Nat.le_refl _))
    | (go_at_call 73; refine (impl_two_yes _ 22 ⟨#[]⟩ false i k _ (fun w' _ => impl_inline_hard v w')).mono ?_; unfold FourOf; rintro e w3 ⟨rfl, hb2⟩; replace hrow := row_kept hb2 hrow (by have := hb.size; simp at this; omega); replace hbel := bel_two hbel hb2 (Nat.le_refl _)))
  case h_1.isFalse h1 h2 => unfold nodeOf at h1; injection h1 with h1; subst h1; exact absurd (nodeCells_size _ _ _) h2
  case h_2 h1 => exact (h1 _ rfl).elim
  rename_i x cs h1 h2
  unfold nodeOf at h1; injection h1 with h1; subst h1
  have hst := store_node (nodeCells 22 ⟨#[]⟩ false) (nodeCells_size _ _ _) (nodeCells_one _ _ _) w3 w.heap.size _ hrow rfl
  rw [hst]
  go_wp2
  have hl := load_struct (P := Try.prog) (ty := 44) (n := 16) (by kernel_rfl) (w3.setRow w.heap.size (nodeCells 22 ⟨#[]⟩ false)) w.heap.size 44 (nodeCells 22 ⟨#[]⟩ false) (0, 0) (setRow_heap _ _ _ _ _ _ hrow) (nodeCells_size _ _ _)
  exact bodyPost_ret (v := FourOf (.agg (nodeCells 22 ⟨#[]⟩ false)) i k true) (by simp [results, asAddr, FourOf, hl]) rfl ⟨k, rfl, hk1, hk2, bel_setRow hbel (Nat.le_refl _) _⟩
set_option maxRecDepth 100000 in
theorem impl_Escape_none (s : ByteArray) (i : Nat) (w : World) (hs : s.size ≤ 1000) (hi : i < s.size) (hp : atB punctB s (i + 1) = false) (hn : atB (fun c => c == 10) s (i + 1) = false) :
    Calls Try.prog 47 #[.string s, .int .i64 i] w fun e w' => e = .returned (FourOf (nodeOf 0 ⟨#[]⟩ false) 0 0 false) ∧ Below w.heap.size w w' := by
  have HZ := Lib.hid (fun w => md_ZZEscape_none s i w hs hi hp hn)
  clear hp hn
  go_enter Try.func47, Try.ntmps47
  go_wp2_with (first
    | (go_at_call 74; refine (HZ.out _).mono ?_; rintro e w2 ⟨rfl, hb⟩; have hrow := row_kept hb (heap_alloc_new w _) (by simp); have hbel := bel_two ((Below.refl _ _).alloc (Nat.le_refl _) _) hb (Nat.le_refl _))
    | (go_at_call 73; refine (impl_two_no _ _ _ _).mono ?_; unfold FourOf; rintro e w3 ⟨rfl, hb2⟩; replace hrow := row_kept hb2 hrow (by have := hb.size; simp at this; omega); replace hbel := bel_two hbel hb2 (Nat.le_refl _)))
  case h_1.isFalse h1 h2 => unfold nodeOf at h1; injection h1 with h1; subst h1; exact absurd (nodeCells_size _ _ _) h2
  case h_2 h1 => exact (h1 _ rfl).elim
  rename_i x cs h1 h2
  unfold nodeOf at h1; injection h1 with h1; subst h1
  have hst := store_node (nodeCells 0 ⟨#[]⟩ false) (nodeCells_size _ _ _) (nodeCells_one _ _ _) w3 w.heap.size _ hrow rfl
  rw [hst]
  go_wp2
  have hl := load_struct (P := Try.prog) (ty := 44) (n := 16) (by kernel_rfl) (w3.setRow w.heap.size (nodeCells 0 ⟨#[]⟩ false)) w.heap.size 44 (nodeCells 0 ⟨#[]⟩ false) (0, 0) (setRow_heap _ _ _ _ _ _ hrow) (nodeCells_size _ _ _)
  exact bodyPost_ret (v := FourOf (.agg (nodeCells 0 ⟨#[]⟩ false)) 0 0 false) (by simp [results, asAddr, FourOf, hl]) rfl ⟨rfl, bel_setRow hbel (Nat.le_refl _) _⟩
end Go.Proofs.Ytigeaoijcjidbaa
