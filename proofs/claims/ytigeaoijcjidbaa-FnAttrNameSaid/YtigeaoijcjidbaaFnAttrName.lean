/- FnAttrName's walk: for every text and place it returns true and leaves memory alone. -/
import Derived.Test.YtigeaoijcjidbaaAttrName
namespace Go.Proofs.Ytigeaoijcjidbaa
open Go.RowKit
theorem name_last {s : ByteArray} {i : Nat} (hi : i + 1 = s.size) (h : atB startB s i = true) : scan nameB s.data.toList i = s.size := by
  rw [scan_step nameB s i (by omega) (nameB_of_start ((atB_of (p := startB) (by omega)).symm.trans h)), scan_end nameB s (i + 1) (by omega)]; exact hi
set_option maxHeartbeats 400000 in
theorem walkFnAttrName (a0 : ByteArray) (a1 : Int) (w : World) (w0 : a0.size ≤ maxLen) (_w1 : (Lit.int .i64 a1).wf = true) : Calls Try.prog 4 #[.string a0, .int .i64 a1] w fun e w' => e = .returned (.bool true) ∧ Below w.heap.size w w' := by
  have hs : a0.size ≤ 9223372036854775807 := w0
  by_cases hin : insideB a0 a1 300 = true
  · obtain ⟨h0, h1, h2, h3⟩ := insideB_iff hin
    clear h3
    obtain ⟨i, rfl⟩ := Int.eq_ofNat_of_zero_le h0
    clear h0
    by_cases hl : i = a0.size
    · subst hl
      go_enter Try.func4, Try.ntmps4
      go_wp2_with (go_at_call 14; refine (laws_inside _ _ _ _ w0).mono ?_; rintro e w' ⟨rfl, rfl⟩)
      go_ret
      exact ⟨rfl, Below.refl _ _⟩
    · have hlt : i < a0.size := by omega
      have hne : ((i : Int) == (a0.size : Int)) = false := by simp; omega
      have hle := scan_size nameB a0 i (by omega)
      have hge := le_scan nameB a0.data.toList i
      have HA := Lib.hid (spec_AttributeName a0 i w w0 (by omega))
      by_cases hst : atB startB a0 i = true
      · have hE : nameEnd a0 i = (scan nameB a0.data.toList i : Int) := by simp [nameEnd, hst]
        rw [hE] at HA
        have hsb : startB ((a0.data.toList.getD i 0).toNat : Int) = true := by rw [getD_byte a0 i hlt, ← atB_of (p := startB) hlt]; exact hst
        by_cases hl1 : i + 1 < a0.size
        · have HN := Lib.hid (impl_yes a0 i w w0 hl1 hsb)
          clear hE hsb hst hl hin
          generalize scan nameB a0.data.toList i = n at *
          go_enter Try.func4, Try.ntmps4
          go_wp2_with (first
            | (go_at_call 14; refine (laws_inside _ _ _ _ w0).mono ?_; rintro e w' ⟨rfl, rfl⟩)
            | (go_at_call 15; refine (spec_IsBlank _ _).mono ?_; rintro e w' ⟨rfl, rfl⟩)
            | (go_at_call 16; refine HN.out.mono ?_; rintro e w' ⟨rfl, rfl⟩)
            | (go_at_call 17; refine HA.out.mono ?_; rintro e w' ⟨rfl, rfl⟩))
          all_goals (go_ret; refine ⟨ret_bool ?_, Below.refl _ _⟩; first | rfl | (simp; done) | (simp_all; done) | (exfalso; omega) | (exfalso; simp_all; omega))
        · have HN := Lib.hid (impl_no a0 i w w0 hlt (fun h => absurd h hl1))
          have hn := name_last (by omega) hst
          rw [hn] at HA
          clear hE hsb hst hl hin hn
          go_enter Try.func4, Try.ntmps4
          go_wp2_with (first
            | (go_at_call 14; refine (laws_inside _ _ _ _ w0).mono ?_; rintro e w' ⟨rfl, rfl⟩)
            | (go_at_call 15; refine (spec_IsBlank _ _).mono ?_; rintro e w' ⟨rfl, rfl⟩)
            | (go_at_call 16; refine HN.out.mono ?_; rintro e w' ⟨rfl, rfl⟩)
            | (go_at_call 17; refine HA.out.mono ?_; rintro e w' ⟨rfl, rfl⟩))
          all_goals (go_ret; refine ⟨ret_bool ?_, Below.refl _ _⟩; first | rfl | (simp; done) | (simp_all; done) | (exfalso; omega) | (exfalso; simp_all; omega))
      · have hst : atB startB a0 i = false := by simpa using hst
        have hE : nameEnd a0 i = -1 := by simp [nameEnd, hst]
        rw [hE] at HA
        have HN := Lib.hid (impl_no a0 i w w0 hlt (fun _ => by rw [getD_byte a0 i hlt, ← atB_of (p := startB) hlt]; exact hst))
        clear hE hst hl hin
        go_enter Try.func4, Try.ntmps4
        go_wp2_with (first
          | (go_at_call 14; refine (laws_inside _ _ _ _ w0).mono ?_; rintro e w' ⟨rfl, rfl⟩)
          | (go_at_call 15; refine (spec_IsBlank _ _).mono ?_; rintro e w' ⟨rfl, rfl⟩)
          | (go_at_call 16; refine HN.out.mono ?_; rintro e w' ⟨rfl, rfl⟩)
          | (go_at_call 17; refine HA.out.mono ?_; rintro e w' ⟨rfl, rfl⟩))
        all_goals (go_ret; refine ⟨ret_bool ?_, Below.refl _ _⟩; first | rfl | (simp; done) | (simp_all; done) | (exfalso; omega) | (exfalso; simp_all; omega))
  · have hin : insideB a0 a1 300 = false := by simpa using hin
    go_enter Try.func4, Try.ntmps4
    go_wp2_with (go_at_call 14; refine (laws_inside _ _ _ _ w0).mono ?_; rintro e w' ⟨rfl, rfl⟩)
    all_goals (go_ret; exact ⟨rfl, Below.refl _ _⟩)
end Go.Proofs.Ytigeaoijcjidbaa
