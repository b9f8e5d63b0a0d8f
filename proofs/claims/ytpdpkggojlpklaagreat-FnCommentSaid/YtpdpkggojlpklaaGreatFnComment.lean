/- FnComment's walk: for all texts it returns true and leaves memory below as it was. -/
import Derived.Test.YtpdpkggojlpklaaGreatCommentPlain
import Derived.Test.YtpdpkggojlpklaaGreatShelf
import Derived.Test.YtpdpkggojlpklaaGreatTexts
import Derived.Deep.QuietTactic
import Derived.BigQuiet
namespace Go.Proofs.YtpdpkggojlpklaaGreat
open Go.RowKit
theorem b45 : (Int.toNat 45).toUInt8 = (45 : UInt8) := by decide
theorem no_byte {l : List UInt8} {c : UInt8} (h : ¬ 0 ≤ Lib.indexByte l c) : ∀ d ∈ l, d ≠ c := by
  induction l with
  | nil => intro d hd; cases hd
  | cons a l ih =>
    rw [Lib.indexByte] at h
    intro d hd
    by_cases ha : a = c
    · subst ha; simp at h
    · rw [if_neg (by simpa using ha)] at h
      rcases List.mem_cons.1 hd with rfl | hd
      · exact ha
      · refine ih ?_ d hd
        intro hn
        apply h
        have hb : (Lib.indexByte l c == -1) = false := beq_eq_false_iff_ne.2 (by omega)
        simp only [hb, Bool.false_eq_true, if_false]
        omega
set_option maxHeartbeats 4000000 in
set_option maxRecDepth 100000 in
theorem walkFnComment (a0 a1 : ByteArray) (w : World) (w0 : a0.size ≤ maxLen) (w1 : a1.size ≤ maxLen) : Calls Tryz.prog 3 #[.string a0, .string a1] w fun e w' => e = .returned (.bool true) ∧ Below w.heap.size w w' := by
  have hs0 : a0.size ≤ 9223372036854775807 := w0
  have hs1 : a1.size ≤ 9223372036854775807 := w1
  have HL0 := fun w : World => laws_lined a0 300 w w0
  have HL1 := fun w : World => laws_lined a1 300 w w1
  have HIB := fun w : World => Tryz.strings_IndexByte a0 45 w
  rw [b45] at HIB
  have HPR := fun w : World => strings_HasPrefix a0 ⟨#[62]⟩ w
  cases hf0 : fitB linB a0 300 with
  | false =>
    rw [hf0] at HL0
    have HL0 := Lib.hid HL0
    clear HL1 HIB HPR
    go_enter Tryz.func3, Tryz.ntmps3
    go_wp2_with (go_at_call 4; refine (HL0.out _).mono ?_; rintro e w' ⟨rfl, rfl⟩)
    all_goals (go_ret; exact ⟨rfl, Below.refl _ _⟩)
  | true =>
  rw [hf0] at HL0
  cases hf1 : fitB linB a1 300 with
  | false =>
    rw [hf1] at HL1
    have HL0 := Lib.hid HL0
    have HL1 := Lib.hid HL1
    clear HIB HPR hf0
    go_enter Tryz.func3, Tryz.ntmps3
    go_wp2_with (go_at_call 4; first | ((with_reducible refine (HL0.out _).mono ?_); rintro e w' ⟨rfl, rfl⟩) | ((with_reducible refine (HL1.out _).mono ?_); rintro e w' ⟨rfl, rfl⟩))
    all_goals (go_ret; exact ⟨rfl, Below.refl _ _⟩)
  | true =>
  rw [hf1] at HL1
  have hz0 : (a0.size : Int) ≤ 300 := by unfold fitB at hf0; simp at hf0; omega
  have hz1 : (a1.size : Int) ≤ 300 := by unfold fitB at hf1; simp at hf1; omega
  clear hf0 hf1
  have HL0 := Lib.hid HL0
  have HL1 := Lib.hid HL1
  by_cases hib : 0 ≤ Lib.indexByte a0.data.toList 45
  · have HIB := Lib.hid HIB
    clear HPR
    go_enter Tryz.func3, Tryz.ntmps3
    go_wp2_with (first
      | (go_at_call 4; first | ((with_reducible refine (HL0.out _).mono ?_); rintro e w' ⟨rfl, rfl⟩) | ((with_reducible refine (HL1.out _).mono ?_); rintro e w' ⟨rfl, rfl⟩))
      | (go_at_call 5; refine (HIB.out _).mono ?_; rintro e w' ⟨rfl, rfl⟩))
    all_goals (go_ret; exact ⟨rfl, Below.refl _ _⟩)
  · cases hpr : hasPre a0 ⟨#[62]⟩ with
    | true =>
      rw [hpr] at HPR
      have HIB := Lib.hid HIB
      have HPR := Lib.hid HPR
      clear hpr
      go_enter Tryz.func3, Tryz.ntmps3
      go_wp2_with (first
        | (go_at_call 4; first | ((with_reducible refine (HL0.out _).mono ?_); rintro e w' ⟨rfl, rfl⟩) | ((with_reducible refine (HL1.out _).mono ?_); rintro e w' ⟨rfl, rfl⟩))
        | (go_at_call 5; refine (HIB.out _).mono ?_; rintro e w' ⟨rfl, rfl⟩)
        | (go_at_call 6; refine (HPR.out _).mono ?_; rintro e w' ⟨rfl, rfl⟩))
      all_goals (go_ret; exact ⟨rfl, Below.refl _ _⟩)
    | false =>
      have hci := comment_is a0 a1 (by omega) (by omega) (no_byte hib) hpr
      have htx := comment_text a0 a1
      have hsz := comment_size a0
      obtain ⟨h0, e0, e1, e2⟩ := comment_heads a0 a1
      have HT := fun w => impl_HTMLTag (cmA ++ a0 ++ cmB ++ a1) 0 (a0.size + 7) w hci h0 e0 e1 e2
      have HC := fun w => impl_HTMLComment (cmA ++ a0 ++ cmB ++ a1) 0 (a0.size + 7) w hci
      rw [htx] at HT HC
      unfold ThreeOf nodeCells at HT HC
      rw [Nat.zero_add, ← hsz] at HT HC
      unfold cmA cmB at HT HC
      rw [hpr] at HPR
      have HIB := Lib.hid HIB
      have HPR := Lib.hid HPR
      have HT := Lib.hid HT
      have HC := Lib.hid HC
      have hbel : Below w.heap.size w w := Below.refl _ _
      clear hpr hci htx hsz h0 e0 e1 e2
      go_enter Tryz.func3, Tryz.ntmps3
      go_wp2_with (first
        | (go_at_call 4; first | ((with_reducible refine (HL0.out _).mono ?_); rintro e w' ⟨rfl, rfl⟩) | ((with_reducible refine (HL1.out _).mono ?_); rintro e w' ⟨rfl, rfl⟩))
        | (go_at_call 5; refine (HIB.out _).mono ?_; rintro e w' ⟨rfl, rfl⟩)
        | (go_at_call 6; refine (HPR.out _).mono ?_; rintro e w' ⟨rfl, rfl⟩)
        | (go_at_call 7; refine (HT.out _).mono ?_; rintro e w2 ⟨rfl, hb⟩; replace hbel := bel_two hbel hb (Nat.le_refl _); clear hb)
        | (go_at_call 8; refine (HC.out _).mono ?_; rintro e w3 ⟨rfl, hb3⟩; have hx0 := (hb3.cell (p := ⟨w2.heap.size, 0, none⟩) (by simp)).trans (World.cell?_alloc_mark _ _ _ _ _); have hx1 := (hb3.cell (p := ⟨w2.heap.size, 1, none⟩) (by simp)).trans (World.cell?_alloc_mark _ _ _ _ _); have hz : w2.heap.size < w3.heap.size := (by have := hb3.size; simp at this; omega)))
      go_ret
      exact ⟨rfl, (bel_two (hbel.alloc (by have := hbel.size; omega) _) hb3 (Nat.le_refl _)).alloc (by have := hbel.size; omega) _⟩
end Go.Proofs.YtpdpkggojlpklaaGreat
