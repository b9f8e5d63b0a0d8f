/- FnLineTrimEnd's walk: for every text and every two numbers it returns true and leaves memory below as it was. -/
import Derived.Test.YtigeaoijcjidbaaLine
import Derived.Test.YtigeaoijcjidbaaOnly
namespace Go.Proofs.Ytigeaoijcjidbaa
open Go.RowKit
theorem in_ws : inB [32, 9] = wsB := by funext c; simp [inB, wsB, Bool.beq_comm (b := c)]
def SomeTextTrue (w : World) (e : Ending) (w' : World) : Prop := ∃ t : ByteArray, e = .returned (.tuple #[.string t, .bool true]) ∧ Below w.heap.size w w'
theorem bel_drewN {B : Nat} {a w : World} (h : Below B a w) (n : Nat) : Below B a (w.drewN n) := ⟨h.os, h.tape, h.output, h.size, h.block⟩
theorem md_ZZLineTrimSpace (s : ByteArray) (mn mx : Int) (w : World) (hs : s.size ≤ 1000) (ha : allB wsB s.data.toList = true) (h0 : 0 ≤ mn) (h1 : mn ≤ mx) (h2 : mx ≤ 100) :
    Calls Try.prog 62 #[.string s, .int .i64 mn, .int .i64 mx, .bool true] w (SomeTextTrue w) := by
  have H := Lib.hid (line_trimSpace w.heap.size s 0 mn mx (w.alloc (.cells (lineCells 0 0 0 s 0) 59)) (Blk.new _ _ _) hs ha h0 h1 h2)
  clear ha h0 h1 h2
  go_enter Try.func62, Try.ntmps62
  go_wp2_with (go_at_call 86; refine H.out.mono ?_; rintro e w1 ⟨rfl, hT⟩; refine Hid.out ?_)
  refine Lib.hid ?_
  obtain ⟨sp, i, tab, s0, s3, hi, hB, hb⟩ := hT
  have HS := Lib.hid (line_string w.heap.size sp i tab s 0 w1 hB s0 s3 hi hs)
  have hb2 : Below w.heap.size w w1 := ((Below.refl _ _).alloc (Nat.le_refl _) _).trans hb
  clear hB hb H
  go_wp2_with (go_at_call 87; refine HS.out.mono ?_; rintro e w2 ⟨t, n, rfl, rfl⟩)
  go_ret2
  exact ⟨t, rfl, bel_drewN hb2 n⟩
theorem impl_LineTrimSpace (s : ByteArray) (mn mx : Int) (w : World) (hs : s.size ≤ 1000) (ha : allB wsB s.data.toList = true) (h0 : 0 ≤ mn) (h1 : mn ≤ mx) (h2 : mx ≤ 100) :
    Calls Try.prog 35 #[.string s, .int .i64 mn, .int .i64 mx, .bool true] w (SomeTextTrue w) := by
  have H := Lib.hid (md_ZZLineTrimSpace s mn mx w hs ha h0 h1 h2)
  clear ha h0 h1 h2
  go_enter Try.func35, Try.ntmps35
  go_wp2_with (go_at_call 62; refine H.out.mono ?_; rintro e w1 ⟨t, rfl, hb⟩)
  go_ret2
  exact ⟨t, rfl, hb⟩
theorem walkFnLineTrimEnd (a0 : ByteArray) (a1 : Int) (a2 : Int) (w : World) (w0 : a0.size ≤ maxLen) (_w1 : (Lit.int .i64 a1).wf = true) (_w2 : (Lit.int .i64 a2).wf = true) :
    Calls Try.prog 8 #[.string a0, .int .i64 a1, .int .i64 a2] w fun e w' => e = .returned (.bool true) ∧ Below w.heap.size w w' := by
  have hs : a0.size ≤ 9223372036854775807 := w0
  by_cases hc : fitB wsB a0 200 = true ∧ 0 ≤ a1 ∧ a1 ≤ a2 ∧ a2 ≤ 100
  · obtain ⟨hf, h0, h1, h2⟩ := hc
    have hf2 := hf
    simp only [fitB, Bool.and_eq_true, decide_eq_true_eq] at hf2
    have hsz : a0.size ≤ 1000 := by omega
    have H := Lib.hid (fun w : World => impl_LineTrimSpace a0 a1 a2 w hsz hf2.2 h0 h1 h2)
    have HO := Lib.hid (fun w : World => laws_only a0 ⟨#[32, 9]⟩ 200 w w0)
    rw [show inB (⟨#[32, 9]⟩ : ByteArray).data.toList = wsB from in_ws, hf] at HO
    clear hf hf2
    go_enter Try.func8, Try.ntmps8
    go_wp2_with (first
      | (go_at_call 21; refine (HO.out _).mono ?_; rintro e w' ⟨rfl, rfl⟩)
      | (go_at_call 35; refine (H.out _).mono ?_; rintro e w1 ⟨t, rfl, hb⟩))
    all_goals (go_ret; first | exact ⟨rfl, hb⟩ | exact ⟨rfl, Below.refl _ _⟩)
  · have HO := Lib.hid (fun w : World => laws_only a0 ⟨#[32, 9]⟩ 200 w w0)
    rw [show inB (⟨#[32, 9]⟩ : ByteArray).data.toList = wsB from in_ws] at HO
    cases hf : fitB wsB a0 200 with
    | false =>
      rw [hf] at HO
      clear hc
      go_enter Try.func8, Try.ntmps8
      go_wp2_with (go_at_call 21; refine (HO.out _).mono ?_; rintro e w' ⟨rfl, rfl⟩)
      all_goals (go_ret; exact ⟨rfl, Below.refl _ _⟩)
    | true =>
      rw [hf] at HO
      have hc2 : a1 < 0 ∨ a2 < a1 ∨ 100 < a2 := by
        by_cases x1 : 0 ≤ a1
        · by_cases x2 : a1 ≤ a2
          · by_cases x3 : a2 ≤ 100
            · exact absurd ⟨hf, x1, x2, x3⟩ hc
            · omega
          · omega
        · omega
      clear hc hf
      go_enter Try.func8, Try.ntmps8
      go_wp2_with (go_at_call 21; refine (HO.out _).mono ?_; rintro e w' ⟨rfl, rfl⟩)
      all_goals first
        | (go_ret; exact ⟨rfl, Below.refl _ _⟩)
        | (exfalso; simp at *; omega)
end Go.Proofs.Ytigeaoijcjidbaa
