/- The doors to comments: the package's chain of readers of raw HTML, the thin package's two words. -/
import Derived.Test.YtpdpkggojlpklaaGreatComment
namespace Go.Proofs.YtpdpkggojlpklaaGreat
open Go.RowKit
set_option maxHeartbeats 1000000 in
theorem md_parseHTMLTag (p : Value) (s : ByteArray) (i n : Nat) (w : World) (h : IsComment s i n) (h0 : i + 2 < s.size) (e0 : (s[i].toNat : Int) = 60) (e1 : (s[i + 1].toNat : Int) = 33) (e2 : (s[i + 2].toNat : Int) = 45) :
    Calls Tryz.prog 16 #[p, .string s, .int .i64 i] w (TagMade s i (i + n) w) := by
  have hs := h.size
  have HC := Lib.hid (fun w => md_parseHTMLComment s i n w h)
  unfold TagMade at HC ⊢
  have b0 : ((s[i].toNat : Int) == 60) = true := beq_iff_eq.2 e0
  have b1 : ((s[i + 1].toNat : Int) == 33) = true := beq_iff_eq.2 e1
  have b2 : ((s[i + 1].toNat : Int) == 47) = false := by rw [e1]; rfl
  have b3 : ((s[i + 2].toNat : Int) == 45) = true := beq_iff_eq.2 e2
  clear h e0 e1 e2
  go_enter Tryz.func16, Tryz.ntmps16
  go_wp2_with (go_at_call 18; refine (HC.out _).mono ?_; rintro e w2 ⟨b, rfl, hbb, hc, hb⟩)
  go_ret3
  exact ⟨b, rfl, hbb, hc, hb⟩
theorem md_ZZHTMLTag (s : ByteArray) (i n : Nat) (w : World) (h : IsComment s i n) (h0 : i + 2 < s.size) (e0 : (s[i].toNat : Int) = 60) (e1 : (s[i + 1].toNat : Int) = 33) (e2 : (s[i + 2].toNat : Int) = 45) :
    Calls Tryz.prog 12 #[.string s, .int .i64 i] w (TagMade s i (i + n) w) := by
  have HC := Lib.hid (fun p w => md_parseHTMLTag p s i n w h h0 e0 e1 e2)
  unfold TagMade at HC ⊢
  clear h e0 e1 e2
  go_enter Tryz.func12, Tryz.ntmps12
  go_wp2_with (first
    | (go_at_call 17; refine (md_zzState _).mono ?_; rintro e w1 ⟨sb, rfl, hsb1, hsb2, hc6, hf6, hbel⟩)
    | (go_at_call 16; refine (HC.out _ _).mono ?_; rintro e w2 ⟨b, rfl, hbb, hc, hb⟩; replace hbel := bel_two hbel hb (Nat.le_refl _)))
  go_ret3
  exact ⟨b, rfl, hbb, hc, hbel⟩
theorem md_ZZParseHTMLComment (s : ByteArray) (i n : Nat) (w : World) (h : IsComment s i n) :
    Calls Tryz.prog 13 #[.string s, .int .i64 i] w (TagMade s i (i + n) w) := by
  have HC := Lib.hid (fun w => md_parseHTMLComment s i n w h)
  unfold TagMade at HC ⊢
  clear h
  go_enter Tryz.func13, Tryz.ntmps13
  go_wp2_with (go_at_call 18; refine (HC.out _).mono ?_; rintro e w2 ⟨b, rfl, hbb, hc, hb⟩)
  go_ret3
  exact ⟨b, rfl, hbb, hc, hb⟩
set_option maxRecDepth 100000 in
theorem impl_HTMLComment (s : ByteArray) (i n : Nat) (w : World) (h : IsComment s i n) :
    Calls Tryz.prog 8 #[.string s, .int .i64 i] w fun e w' => e = .returned (ThreeOf (.agg (nodeCells 29 (s.extract i (i + n)) false)) ((i + n : Nat) : Int) true) ∧ Below w.heap.size w w' := by
  have HZ := Lib.hid (fun w => md_ZZParseHTMLComment s i n w h)
  clear h
  generalize i + n = n at *
  unfold TagMade at HZ
  go_enter Tryz.func8, Tryz.ntmps8
  go_wp2_with (first
    | (go_at_call 13; refine (HZ.out _).mono ?_; rintro e w2 ⟨b, rfl, hbb, hc, hb⟩; have hrow := row_kept hb (heap_alloc_new w _) (by simp); have hbel := bel_two ((Below.refl _ _).alloc (Nat.le_refl _) _) hb (Nat.le_refl _))
    | (go_at_call 11; refine (impl_one_yes _ 29 (s.extract i n) false n _ (fun w' hw' => impl_inline_tag b _ w' (by have := hw'.size; omega) (by rw [hw'.cell hbb]; exact hc))).mono ?_; unfold ThreeOf; rintro e w3 ⟨rfl, hb2⟩; replace hrow := row_kept hb2 hrow (by have := hb.size; simp at this; omega); replace hbel := bel_two hbel hb2 (Nat.le_refl _)))
  case h_1.isFalse h1 h2 => unfold nodeOf at h1; injection h1 with h1; subst h1; exact absurd (nodeCells_size _ _ _) h2
  case h_2 h1 => exact (h1 _ rfl).elim
  rename_i x cs h1 h2
  unfold nodeOf at h1; injection h1 with h1; subst h1
  have hst := store_node (nodeCells 29 (s.extract i n) false) (nodeCells_size _ _ _) (nodeCells_one _ _ _) w3 w.heap.size _ hrow rfl
  rw [hst]
  go_wp2
  have hl := load_struct (P := Tryz.prog) (ty := 29) (n := 16) (by kernel_rfl) (w3.setRow w.heap.size (nodeCells 29 (s.extract i n) false)) w.heap.size 29 (nodeCells 29 (s.extract i n) false) (0, 0) (setRow_heap _ _ _ _ _ _ hrow) (nodeCells_size _ _ _)
  exact bodyPost_ret (v := ThreeOf (.agg (nodeCells 29 (s.extract i n) false)) n true) (by simp [results, asAddr, ThreeOf, hl]) rfl ⟨rfl, bel_setRow hbel (Nat.le_refl _) _⟩
set_option maxRecDepth 100000 in
theorem impl_HTMLTag (s : ByteArray) (i n : Nat) (w : World) (h : IsComment s i n) (h0 : i + 2 < s.size) (e0 : (s[i].toNat : Int) = 60) (e1 : (s[i + 1].toNat : Int) = 33) (e2 : (s[i + 2].toNat : Int) = 45) :
    Calls Tryz.prog 7 #[.string s, .int .i64 i] w fun e w' => e = .returned (ThreeOf (.agg (nodeCells 29 (s.extract i (i + n)) false)) ((i + n : Nat) : Int) true) ∧ Below w.heap.size w w' := by
  have HZ := Lib.hid (fun w => md_ZZHTMLTag s i n w h h0 e0 e1 e2)
  clear h e0 e1 e2
  generalize i + n = n at *
  unfold TagMade at HZ
  go_enter Tryz.func7, Tryz.ntmps7
  go_wp2_with (first
    | (go_at_call 12; refine (HZ.out _).mono ?_; rintro e w2 ⟨b, rfl, hbb, hc, hb⟩; have hrow := row_kept hb (heap_alloc_new w _) (by simp); have hbel := bel_two ((Below.refl _ _).alloc (Nat.le_refl _) _) hb (Nat.le_refl _))
    | (go_at_call 11; refine (impl_one_yes _ 29 (s.extract i n) false n _ (fun w' hw' => impl_inline_tag b _ w' (by have := hw'.size; omega) (by rw [hw'.cell hbb]; exact hc))).mono ?_; unfold ThreeOf; rintro e w3 ⟨rfl, hb2⟩; replace hrow := row_kept hb2 hrow (by have := hb.size; simp at this; omega); replace hbel := bel_two hbel hb2 (Nat.le_refl _)))
  case h_1.isFalse h1 h2 => unfold nodeOf at h1; injection h1 with h1; subst h1; exact absurd (nodeCells_size _ _ _) h2
  case h_2 h1 => exact (h1 _ rfl).elim
  rename_i x cs h1 h2
  unfold nodeOf at h1; injection h1 with h1; subst h1
  have hst := store_node (nodeCells 29 (s.extract i n) false) (nodeCells_size _ _ _) (nodeCells_one _ _ _) w3 w.heap.size _ hrow rfl
  rw [hst]
  go_wp2
  have hl := load_struct (P := Tryz.prog) (ty := 29) (n := 16) (by kernel_rfl) (w3.setRow w.heap.size (nodeCells 29 (s.extract i n) false)) w.heap.size 29 (nodeCells 29 (s.extract i n) false) (0, 0) (setRow_heap _ _ _ _ _ _ hrow) (nodeCells_size _ _ _)
  exact bodyPost_ret (v := ThreeOf (.agg (nodeCells 29 (s.extract i n) false)) n true) (by simp [results, asAddr, ThreeOf, hl]) rfl ⟨rfl, bel_setRow hbel (Nat.le_refl _) _⟩
end Go.Proofs.YtpdpkggojlpklaaGreat
