/- FnEscapeLink's walk: for all texts it returns true and leaves memory below as it was. -/
import Derived.Test.YtpdpkggojlpklaaDoorFnEscapeURL
import Derived.Test.YtpdpkggojlpklaaDoorPut
import Derived.Test.YtpdpkggojlpklaaDoorPrintable
namespace Go.Proofs.YtpdpkggojlpklaaDoor
open Go.RowKit
theorem pr_bounds {s : ByteArray} {most : Int} (h : fitB prB s most = true) : (s.size : Int) ≤ most ∧ ∀ c ∈ s.data.toList, 32 ≤ c.toNat ∧ c.toNat ≤ 126 := by
  unfold fitB at h
  rw [Bool.and_eq_true, decide_eq_true_eq] at h
  refine ⟨h.1, fun c hc => ?_⟩
  have := List.all_eq_true.1 h.2 c hc
  simp only [prB, Bool.and_eq_true, decide_eq_true_eq] at this
  omega
theorem arr_append (l m : List UInt8) : (⟨(l ++ m).toArray⟩ : ByteArray) = (⟨l.toArray⟩ : ByteArray) ++ (⟨m.toArray⟩ : ByteArray) := by
  apply ByteArray.ext; simp
theorem bel_on {B : Nat} {w a b : World} (h : Below B w a) (k : Below a.heap.size a b) (hB : B ≤ w.heap.size) : Below B w b := h.trans (k.mono (Nat.le_trans hB h.size))
set_option maxHeartbeats 2000000 in
theorem walkFnEscapeLink (a0 a1 : ByteArray) (w : World) (w0 : a0.size ≤ maxLen) (w1 : a1.size ≤ maxLen) : Calls Tryd.prog 3 #[.string a0, .string a1] w fun e w' => e = .returned (.bool true) ∧ Below w.heap.size w w' := by
  have hs0 : a0.size ≤ 9223372036854775807 := w0
  have hs1 : a1.size ≤ 9223372036854775807 := w1
  have HL0 := fun w : World => laws_printable a0 1000 w w0
  have HL1 := fun w : World => laws_printable a1 1000 w w1
  cases hf0 : fitB prB a0 1000 with
  | false =>
    rw [hf0] at HL0
    have HL0 := Lib.hid HL0
    clear HL1 hf0
    go_enter Tryd.func3, Tryd.ntmps3
    go_wp2_with (go_at_call 5; refine (HL0.out _).mono ?_; rintro e w' ⟨rfl, rfl⟩)
    all_goals (go_ret; exact ⟨rfl, Below.refl _ _⟩)
  | true =>
  rw [hf0] at HL0
  cases hf1 : fitB prB a1 1000 with
  | false =>
    rw [hf1] at HL1
    have HL0 := Lib.hid HL0
    have HL1 := Lib.hid HL1
    clear hf0 hf1
    go_enter Tryd.func3, Tryd.ntmps3
    go_wp2_with (go_at_call 5; first | ((with_reducible refine (HL0.out _).mono ?_); rintro e w' ⟨rfl, rfl⟩) | ((with_reducible refine (HL1.out _).mono ?_); rintro e w' ⟨rfl, rfl⟩))
    all_goals (go_ret; exact ⟨rfl, Below.refl _ _⟩)
  | true =>
  rw [hf1] at HL1
  obtain ⟨hz0, hp0⟩ := pr_bounds hf0
  obtain ⟨hz1, hp1⟩ := pr_bounds hf1
  clear hf0 hf1
  have HL0 := Lib.hid HL0
  have HL1 := Lib.hid HL1
  have HE0 := fun w => impl_EscapeLink a0 w (by omega)
  have HE1 := fun w => impl_EscapeLink a1 w (by omega)
  have HE2 := fun w => impl_EscapeLink (a0 ++ a1) w (by rw [ByteArray.size_append]; omega)
  have HU := fun w => spec_EscapeURL a0 w (by omega)
  rw [← urlL_link _ hp0] at HU
  have e2 : (a0 ++ a1).data.toList = a0.data.toList ++ a1.data.toList := by simp
  rw [e2, escP_append, arr_append] at HE2
  have hn0 : (⟨(escP linkK linkE a0.data.toList).toArray⟩ : ByteArray).size ≤ 5000 := by
    have := escP_len (K := linkK) (E := linkE) (n := 5) (by omega) (fun c _ => linkE_len c) a0.data.toList
    show (escP linkK linkE a0.data.toList).toArray.size ≤ _
    simp at this ⊢; omega
  have hn1 : (⟨(escP linkK linkE a1.data.toList).toArray⟩ : ByteArray).size ≤ 5000 := by
    have := escP_len (K := linkK) (E := linkE) (n := 5) (by omega) (fun c _ => linkE_len c) a1.data.toList
    show (escP linkK linkE a1.data.toList).toArray.size ≤ _
    simp at this ⊢; omega
  clear e2 hp0 hp1
  generalize (⟨(escP linkK linkE a0.data.toList).toArray⟩ : ByteArray) = S0 at *
  generalize (⟨(escP linkK linkE a1.data.toList).toArray⟩ : ByteArray) = S1 at *
  have HE0 := Lib.hid HE0
  have HE1 := Lib.hid HE1
  have HE2 := Lib.hid HE2
  have HU := Lib.hid HU
  have hbel : Below w.heap.size w w := Below.refl _ _
  go_enter Tryd.func3, Tryd.ntmps3
  go_wp2_with (first
    | (go_at_call 5; first | ((with_reducible refine (HL0.out _).mono ?_); rintro e w' ⟨rfl, rfl⟩) | ((with_reducible refine (HL1.out _).mono ?_); rintro e w' ⟨rfl, rfl⟩))
    | (go_at_call 7; refine (HU.out _).mono ?_; rintro e w2 ⟨rfl, hb⟩; replace hbel := bel_on hbel hb (Nat.le_refl _); clear hb)
    | (go_at_call 6; first
      | ((with_reducible refine (HE2.out _).mono ?_); rintro e w2 ⟨rfl, hb⟩; replace hbel := bel_on hbel hb (Nat.le_refl _); clear hb)
      | ((with_reducible refine (HE0.out _).mono ?_); rintro e w2 ⟨rfl, hb⟩; replace hbel := bel_on hbel hb (Nat.le_refl _); clear hb)
      | ((with_reducible refine (HE1.out _).mono ?_); rintro e w2 ⟨rfl, hb⟩; replace hbel := bel_on hbel hb (Nat.le_refl _); clear hb)))
  go_ret
  exact ⟨rfl, hbel⟩
end Go.Proofs.YtpdpkggojlpklaaDoor
