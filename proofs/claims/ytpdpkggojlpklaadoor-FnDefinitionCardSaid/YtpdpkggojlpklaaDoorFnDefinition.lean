/- FnDefinition's walk: for all texts it returns true and leaves memory below as it was. -/
import Derived.Test.YtpdpkggojlpklaaDoorDefPlain
import Derived.Test.YtpdpkggojlpklaaDoorFoldSpec
import Derived.Test.YtpdpkggojlpklaaDoorOnly
import Derived.Test.YtpdpkggojlpklaaDoorPrintable
namespace Go.Proofs.YtpdpkggojlpklaaDoor
open Go.RowKit
theorem in_class {cls : List UInt8} {p : Int → Bool} (hp : ∀ b ∈ cls, p (b.toNat : Int) = true) {s : ByteArray} {most : Int} (h : fitB (inB cls) s most = true) : (s.size : Int) ≤ most ∧ ∀ c ∈ s.data.toList, p (c.toNat : Int) = true := by
  unfold fitB at h
  rw [Bool.and_eq_true, decide_eq_true_eq] at h
  refine ⟨h.1, fun c hc => ?_⟩
  have := List.all_eq_true.1 h.2 c hc
  unfold inB at this
  rw [List.any_eq_true] at this
  obtain ⟨b, hb, hbc⟩ := this
  rw [← beq_iff_eq.1 hbc]; exact hp b hb
def clsL : ByteArray := ⟨#[97, 98, 99, 88, 89, 90, 48, 49, 57]⟩
def clsD : ByteArray := ⟨#[97, 98, 47, 46, 58, 48, 49, 57]⟩
def clsT : ByteArray := ⟨#[97, 98, 32, 48, 49]⟩
/-- the texts that the statement speaks of -/
def defC (a0 a1 a2 a3 : ByteArray) : Bool := fitB (inB clsL.data.toList) a0 40 && !a0.toList.isEmpty && fitB (inB clsD.data.toList) a1 40 && !a1.toList.isEmpty && fitB (inB clsT.data.toList) a2 40 && fitB prB a3 100
set_option maxHeartbeats 8000000 in
set_option maxRecDepth 100000 in
theorem walkFnDefinition (a0 a1 a2 a3 : ByteArray) (w : World) (w0 : a0.size ≤ maxLen) (w1 : a1.size ≤ maxLen) (w2 : a2.size ≤ maxLen) (w3 : a3.size ≤ maxLen) (ht : TableAt w) (h0 : 4 < w.heap.size) :
    Calls Tryd.prog 4 #[.string a0, .string a1, .string a2, .string a3] w fun e w' => e = .returned (.bool true) ∧ Below w.heap.size w w' := by
  have hs0 : a0.size ≤ 9223372036854775807 := w0
  have hs1 : a1.size ≤ 9223372036854775807 := w1
  have hs2 : a2.size ≤ 9223372036854775807 := w2
  have hs3 : a3.size ≤ 9223372036854775807 := w3
  have HL : ∀ w, Calls Tryd.prog 8 #[.string a0, .string ⟨#[97, 98, 99, 88, 89, 90, 48, 49, 57]⟩, .int .i64 40] w fun e w' => e = .returned (.bool (fitB (inB clsL.data.toList) a0 40)) ∧ w = w' := fun w => laws_only a0 clsL 40 w w0
  have HD : ∀ w, Calls Tryd.prog 8 #[.string a1, .string ⟨#[97, 98, 47, 46, 58, 48, 49, 57]⟩, .int .i64 40] w fun e w' => e = .returned (.bool (fitB (inB clsD.data.toList) a1 40)) ∧ w = w' := fun w => laws_only a1 clsD 40 w w1
  have HT : ∀ w, Calls Tryd.prog 8 #[.string a2, .string ⟨#[97, 98, 32, 48, 49]⟩, .int .i64 40] w fun e w' => e = .returned (.bool (fitB (inB clsT.data.toList) a2 40)) ∧ w = w' := fun w => laws_only a2 clsT 40 w w2
  have HB := fun w : World => laws_printable a3 100 w w3
  cases hc : defC a0 a1 a2 a3 with
  | false =>
    have HC : Hid (defC a0 a1 a2 a3 = (fitB (inB clsL.data.toList) a0 40 && !a0.toList.isEmpty && fitB (inB clsD.data.toList) a1 40 && !a1.toList.isEmpty && fitB (inB clsT.data.toList) a2 40 && fitB prB a3 100)) := Lib.hid rfl
    rw [hc] at HC
    generalize fitB (inB clsL.data.toList) a0 40 = F0 at *
    generalize fitB (inB clsD.data.toList) a1 40 = F1 at *
    generalize fitB (inB clsT.data.toList) a2 40 = F2 at *
    generalize fitB prB a3 100 = F3 at *
    replace HL := Lib.hid HL
    replace HD := Lib.hid HD
    replace HT := Lib.hid HT
    replace HB := Lib.hid HB
    clear hc ht
    go_enter Tryd.func4, Tryd.ntmps4
    go_wp2_with (first
      | (go_at_call 8; first
        | ((with_reducible refine (HL.out _).mono ?_); rintro e w' ⟨rfl, rfl⟩)
        | ((with_reducible refine (HD.out _).mono ?_); rintro e w' ⟨rfl, rfl⟩)
        | ((with_reducible refine (HT.out _).mono ?_); rintro e w' ⟨rfl, rfl⟩))
      | (go_at_call 5; refine (HB.out _).mono ?_; rintro e w' ⟨rfl, rfl⟩))
    all_goals first
      | (go_ret; exact ⟨rfl, Below.refl _ _⟩)
      | (exfalso; have hc := HC.out; clear HC HL HD HT HB; simp_all; done)
  | true =>
    unfold defC at hc
    simp only [Bool.and_eq_true, Bool.not_eq_true'] at hc
    obtain ⟨⟨⟨⟨⟨c0, c1⟩, c2⟩, c3⟩, c4⟩, c5⟩ := hc
    rw [c0] at HL
    rw [c2] at HD
    rw [c4] at HT
    rw [c5] at HB
    obtain ⟨z0, y0⟩ := in_class (p := alnB) (by decide) c0
    obtain ⟨z1, y1⟩ := in_class (p := destB) (by decide) c2
    obtain ⟨z2, y2⟩ := in_class (p := titB) (by decide) c4
    have z3 : (a3.size : Int) ≤ 100 := by unfold fitB at c5; rw [Bool.and_eq_true, decide_eq_true_eq] at c5; exact c5.1
    have p0 : 0 < a0.size := by
      rcases Nat.eq_zero_or_pos a0.size with h | h
      · rw [Lib.toList_data, empty_of_size h] at c1; cases c1
      · exact h
    have p1 : 0 < a1.size := by
      rcases Nat.eq_zero_or_pos a1.size with h | h
      · rw [Lib.toList_data, empty_of_size h] at c3; cases c3
      · exact h
    have c1' : ¬ a0.toList = [] := fun e => by rw [e] at c1; cases c1
    have c3' : ¬ a1.toList = [] := fun e => by rw [e] at c3; cases c3
    have HI := impl_LinkRefDef _ _ _ _ _ _ _ _ _ w (def_is a0 a1 a2 a3 (by omega) (by omega) (by omega) (by omega) p0 p1 y0 y1 y2) ht h0
    have HF := fun w => spec_Fold a0 w (by omega) y0
    have hz := def_size a0 a1 a2
    rw [show (((a0.size + 4 + a1.size + 1 + a2.size + 2 : Nat) : Int) + 1) = ((defText a0 a1 a2).size : Int) by rw [hz]; omega] at HI
    unfold defText dfA dfB dfC dfD at HI
    clear c0 c2 c4 c5 y0 y1 y2 hz ht
    generalize (⟨(lowL a0.data.toList).toArray⟩ : ByteArray) = LW at *
    replace HL := Lib.hid HL
    replace HD := Lib.hid HD
    replace HT := Lib.hid HT
    replace HB := Lib.hid HB
    replace HI := Lib.hid HI
    replace HF := Lib.hid HF
    go_enter Tryd.func4, Tryd.ntmps4
    go_wp2_with (first
      | (go_at_call 8; first
        | ((with_reducible refine (HL.out _).mono ?_); rintro e w' ⟨rfl, rfl⟩)
        | ((with_reducible refine (HD.out _).mono ?_); rintro e w' ⟨rfl, rfl⟩)
        | ((with_reducible refine (HT.out _).mono ?_); rintro e w' ⟨rfl, rfl⟩))
      | (go_at_call 5; refine (HB.out _).mono ?_; rintro e w' ⟨rfl, rfl⟩)
      | (go_at_call 9; refine HI.out.mono ?_; rintro e w2 ⟨rfl, hb⟩)
      | (go_at_call 10; refine (HF.out _).mono ?_; rintro e w' ⟨rfl, rfl⟩))
    all_goals (go_ret; exact ⟨rfl, hb⟩)
end Go.Proofs.YtpdpkggojlpklaaDoor
