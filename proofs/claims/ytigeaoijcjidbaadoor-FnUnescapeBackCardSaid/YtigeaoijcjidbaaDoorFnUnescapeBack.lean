/- FnUnescapeBack's walk: for every text it returns true and leaves memory below as it was. -/
import Derived.Test.YtigeaoijcjidbaaDoorUnesc
import Derived.Test.YtigeaoijcjidbaaDoorTexts
namespace Go.Proofs.YtigeaoijcjidbaaDoor
open Go.RowKit
theorem beq_text (s : ByteArray) : ((⟨s.data.toList.toArray⟩ : ByteArray).toList == s.toList) = true := by
  rw [beq_iff_eq]
theorem walkFnUnescapeBack (a0 : ByteArray) (w : World) (w0 : a0.size ≤ maxLen) (ht : TableAt w) (h0 : 0 < w.heap.size) : Calls Tryd.prog 3 #[.string a0] w fun e w' => e = .returned (.bool true) ∧ Below w.heap.size w w' := by
  have hs : a0.size ≤ 9223372036854775807 := w0
  have HI := Lib.hid (fun w : World => laws_lined a0 1000 w w0)
  cases hin : fitB linB a0 1000 with
  | false =>
    rw [hin] at HI
    clear ht
    go_enter Tryd.func3, Tryd.ntmps3
    go_wp2_with (go_at_call 5; refine (HI.out _).mono ?_; rintro e w' ⟨rfl, rfl⟩)
    all_goals (go_ret; exact ⟨rfl, Below.refl _ _⟩)
  | true =>
    rw [hin] at HI
    have hsz : a0.size ≤ 1000 := by
      unfold fitB at hin; simp only [Bool.and_eq_true, decide_eq_true_eq] at hin; have := hin.1; omega
    clear hin
    have HE := Lib.hid (laws_escaped a0 w hsz)
    have hel : (escL a0.data.toList).length ≤ 2000 := Nat.le_trans (escL_length _) (by simp; omega)
    have HU := Lib.hid (fun (w' : World) (hb : Below w.heap.size w w') => impl_Unescape ⟨(escL a0.data.toList).toArray⟩ w' hel (ht.below hb h0) (Nat.lt_of_lt_of_le h0 hb.size))
    have hrp : (⟨(rp entP 0 (⟨(escL a0.data.toList).toArray⟩ : ByteArray).data.toList).toArray⟩ : ByteArray) = ⟨a0.data.toList.toArray⟩ := by
      show (⟨(rp entP 0 (escL a0.data.toList)).toArray⟩ : ByteArray) = _
      rw [rp_escL]
    rw [hrp] at HU
    have HB := Lib.hid (beq_text a0)
    clear hrp ht hel
    generalize (⟨(escL a0.data.toList).toArray⟩ : ByteArray) = E at *
    generalize (⟨a0.data.toList.toArray⟩ : ByteArray) = R at *
    go_enter Tryd.func3, Tryd.ntmps3
    go_wp2_with (first
      | (go_at_call 5; refine (HI.out _).mono ?_; rintro e w' ⟨rfl, rfl⟩)
      | (go_at_call 7; refine HE.out.mono ?_; rintro e w1 ⟨rfl, hb1⟩)
      | (go_at_call 6; refine (HU.out _ hb1).mono ?_; rintro e w2 ⟨rfl, hb2⟩))
    go_ret
    exact ⟨ret_bool HB.out, hb1.trans (hb2.mono hb1.size)⟩
end Go.Proofs.YtigeaoijcjidbaaDoor
