/- The thin package's word for a processing instruction; the laws' word 'read'. -/
import Derived.Test.YtpdpkggojlpklaaMarker
import Derived.Deep.QuietTactic
import Derived.BigQuiet
namespace Go.Proofs.Ytpdpkggojlpklaa
open Go.RowKit
set_option maxRecDepth 100000 in
theorem impl_HTMLProcInst_no (s : ByteArray) (i : Nat) (w : World) (hs : s.size ≤ 1000) (hi : i ≤ s.size) (hu : untilOf (s.extract i s.size) piA piB = 0) :
    Calls Try.prog 7 #[.string s, .int .i64 i] w fun e w' => e = .returned (ThreeOf (.agg (nodeCells 0 ⟨#[]⟩ false)) 0 false) ∧ Below w.heap.size w w' := by
  have HZ := Lib.hid (fun w => md_ZZParseHTMLProcInst s i w hs hi)
  unfold markRes at HZ
  simp only [hu, if_true] at HZ
  clear hu
  go_enter Try.func7, Try.ntmps7
  go_wp2_with (first
    | (go_at_call 14; refine (HZ.out _).mono ?_; rintro e w2 ⟨rfl, hb⟩; have hrow := row_kept hb (heap_alloc_new w _) (by simp); have hbel := bel_two ((Below.refl _ _).alloc (Nat.le_refl _) _) hb (Nat.le_refl _))
    | (go_at_call 13; refine (impl_one_no _ _ _).mono ?_; unfold ThreeOf; rintro e w3 ⟨rfl, hb2⟩; replace hrow := row_kept hb2 hrow (by have := hb.size; simp at this; omega); replace hbel := bel_two hbel hb2 (Nat.le_refl _)))
  case h_1.isFalse h1 h2 => unfold nodeOf at h1; injection h1 with h1; subst h1; exact absurd (nodeCells_size _ _ _) h2
  case h_2 h1 => exact (h1 _ rfl).elim
  rename_i x cs h1 h2
  unfold nodeOf at h1; injection h1 with h1; subst h1
  have hst := store_node (nodeCells 0 ⟨#[]⟩ false) (nodeCells_size _ _ _) (nodeCells_one _ _ _) w3 w.heap.size _ hrow rfl
  rw [hst]
  go_wp2
  have hl := load_struct (P := Try.prog) (ty := 28) (n := 16) (by kernel_rfl) (w3.setRow w.heap.size (nodeCells 0 ⟨#[]⟩ false)) w.heap.size 28 (nodeCells 0 ⟨#[]⟩ false) (0, 0) (setRow_heap _ _ _ _ _ _ hrow) (nodeCells_size _ _ _)
  exact bodyPost_ret (v := ThreeOf (.agg (nodeCells 0 ⟨#[]⟩ false)) 0 false) (by simp [results, asAddr, ThreeOf, hl]) rfl ⟨rfl, bel_setRow hbel (Nat.le_refl _) _⟩
set_option maxRecDepth 100000 in
theorem impl_HTMLProcInst_yes (s : ByteArray) (i : Nat) (w : World) (hs : s.size ≤ 1000) (hi : i ≤ s.size) (hu : untilOf (s.extract i s.size) piA piB ≠ 0) :
    Calls Try.prog 7 #[.string s, .int .i64 i] w fun e w' => e = .returned (ThreeOf (.agg (nodeCells 29 (s.extract i (i + untilOf (s.extract i s.size) piA piB)) false)) ((i + untilOf (s.extract i s.size) piA piB : Nat) : Int) true) ∧ Below w.heap.size w w' := by
  have HZ := Lib.hid (fun w => md_ZZParseHTMLProcInst s i w hs hi)
  unfold markRes at HZ
  simp only [hu, if_false] at HZ
  clear hu; generalize hn : i + untilOf (s.extract i s.size) piA piB = n at *; clear hn
  go_enter Try.func7, Try.ntmps7
  go_wp2_with (first
    | (go_at_call 14; refine (HZ.out _).mono ?_; rintro e w2 ⟨b, rfl, hbb, hc, hb⟩; have hrow := row_kept hb (heap_alloc_new w _) (by simp); have hbel := bel_two ((Below.refl _ _).alloc (Nat.le_refl _) _) hb (Nat.le_refl _))
    | (go_at_call 13; refine (impl_one_yes _ 29 (s.extract i n) false n _ (fun w' hw' => impl_inline_tag b _ w' (by have := hw'.size; omega) (by rw [hw'.cell hbb]; exact hc))).mono ?_; unfold ThreeOf; rintro e w3 ⟨rfl, hb2⟩; replace hrow := row_kept hb2 hrow (by have := hb.size; simp at this; omega); replace hbel := bel_two hbel hb2 (Nat.le_refl _)))
  case h_1.isFalse h1 h2 => unfold nodeOf at h1; injection h1 with h1; subst h1; exact absurd (nodeCells_size _ _ _) h2
  case h_2 h1 => exact (h1 _ rfl).elim
  rename_i x cs h1 h2
  unfold nodeOf at h1; injection h1 with h1; subst h1
  have hst := store_node (nodeCells 29 (s.extract i n) false) (nodeCells_size _ _ _) (nodeCells_one _ _ _) w3 w.heap.size _ hrow rfl
  rw [hst]
  go_wp2
  have hl := load_struct (P := Try.prog) (ty := 28) (n := 16) (by kernel_rfl) (w3.setRow w.heap.size (nodeCells 29 (s.extract i n) false)) w.heap.size 28 (nodeCells 29 (s.extract i n) false) (0, 0) (setRow_heap _ _ _ _ _ _ hrow) (nodeCells_size _ _ _)
  exact bodyPost_ret (v := ThreeOf (.agg (nodeCells 29 (s.extract i n) false)) n true) (by simp [results, asAddr, ThreeOf, hl]) rfl ⟨rfl, bel_setRow hbel (Nat.le_refl _) _⟩
end Go.Proofs.Ytpdpkggojlpklaa
