/- FnInstruction's walk: for every text and place it returns true and leaves memory below as it was. -/
import Derived.Test.YtpdpkggojlpklaaReadTag
import Derived.Test.YtpdpkggojlpklaaTexts
import Derived.Deep.RegionWith
namespace Go.Proofs.Ytpdpkggojlpklaa
open Go.RowKit
theorem spec_UntilOf (s p q : ByteArray) (w : World) (hs : s.size ≤ 100000) (hq : q.size ≤ 1000) (hq0 : 0 < q.size) : Calls Try.prog 9 #[.string s, .string p, .string q] w fun e w' => e = .returned (.int .i64 (untilOf s p q)) ∧ w = w' := by
  have H := Lib.hid (fun w => spec_until s p q w hs hq hq0)
  generalize untilOf s p q = R at *
  go_enter Try.func9, Try.ntmps9
  go_wp2_with (go_at_call 15; refine (H.out _).mono ?_; rintro e w' ⟨rfl, rfl⟩)
  go_ret
  exact ⟨rfl, rfl⟩
theorem untilOf_le {s p q : ByteArray} : untilOf s p q ≤ s.size := by
  unfold untilOf
  split
  · rename_i h
    unfold hasPre at h
    have h1 := (List.isPrefixOf_iff_prefix.1 h).length_le
    split
    · rename_i j hj
      have h2 := (findSub_lt hj).1
      simp at h1 h2; omega
    · omega
  · omega
set_option maxHeartbeats 4000000 in
set_option maxRecDepth 100000 in
theorem walkFnInstruction (a0 : ByteArray) (a1 : Int) (w : World) (w0 : a0.size ≤ maxLen) (_w1 : (Lit.int .i64 a1).wf = true) : Calls Try.prog 3 #[.string a0, .int .i64 a1] w fun e w' => e = .returned (.bool true) ∧ Below w.heap.size w w' := by
  have hs : a0.size ≤ 9223372036854775807 := w0
  have HI := Lib.hid (fun w : World => laws_inside a0 a1 300 w w0)
  cases hin : insideB a0 a1 300 with
  | false =>
    rw [hin] at HI
    go_enter Try.func3, Try.ntmps3
    go_wp2_with (go_at_call 5; refine (HI.out _).mono ?_; rintro e w' ⟨rfl, rfl⟩)
    all_goals (go_ret; exact ⟨rfl, Below.refl _ _⟩)
  | true =>
    rw [hin] at HI
    obtain ⟨hh0, hh1, hh2, hh3⟩ := insideB_iff hin
    clear hh3 hin
    obtain ⟨i, rfl⟩ := Int.eq_ofNat_of_zero_le hh0
    clear hh0
    have hi : i ≤ a0.size := by omega
    have hs1 : a0.size ≤ 1000 := by omega
    have hts : (a0.extract i a0.size).size ≤ 100000 := by rw [ByteArray.size_extract]; omega
    have HH := Lib.hid (fun w => laws_headed (a0.extract i a0.size) piA w)
    have HU := Lib.hid (fun w => spec_UntilOf (a0.extract i a0.size) piA piB w hts (by decide) (by decide))
    cases hh : hasPre (a0.extract i a0.size) piA with
    | false =>
      rw [hh] at HH
      go_enter Try.func3, Try.ntmps3
      go_wp2_with (first
        | (go_at_call 5; refine (HI.out _).mono ?_; rintro e w' ⟨rfl, rfl⟩)
        | (go_at_call 6; refine (HH.out _).mono ?_; rintro e w' ⟨rfl, rfl⟩))
      all_goals (go_ret; exact ⟨rfl, Below.refl _ _⟩)
    | true =>
      rw [hh] at HH
      clear hh
      have hbel : Below w.heap.size w w := Below.refl _ _
      by_cases hu : untilOf (a0.extract i a0.size) piA piB = 0
      · have HP := Lib.hid (fun w => impl_HTMLProcInst_no a0 i w hs1 hi hu)
        rw [hu] at HU
        have HR := Lib.hid (fun w => laws_read_no a0 i _ rfl w)
        clear hu
        unfold ThreeOf nodeCells at HP
        unfold nodeCells at HR
        go_enter Try.func3, Try.ntmps3
        go_wp2_with (first
          | (go_at_call 5; refine (HI.out _).mono ?_; rintro e w' ⟨rfl, rfl⟩)
          | (go_at_call 6; refine (HH.out _).mono ?_; rintro e w' ⟨rfl, rfl⟩)
          | (go_at_call 7; refine (HP.out _).mono ?_; rintro e w2 ⟨rfl, hb⟩; replace hbel := bel_two hbel hb (Nat.le_refl _); clear hb))
        go_region_with (first
          | (go_at_call 9; refine (HU.out _).mono ?_; rintro e w' ⟨rfl, rfl⟩)
          | (go_at_call 8; refine (HR.out _).mono ?_; rintro e w3 ⟨rfl, hb⟩))
        all_goals (go_wp2; go_ret; exact ⟨rfl, bel_two ((hbel.alloc (by have := hbel.size; omega) _).drew) hb (Nat.le_refl _)⟩)
      · have HP := Lib.hid (fun w => impl_HTMLProcInst_yes a0 i w hs1 hi hu)
        have hle : untilOf (a0.extract i a0.size) piA piB ≤ (a0.extract i a0.size).size := untilOf_le
        have HR := Lib.hid (fun w => laws_read_yes a0 i (untilOf (a0.extract i a0.size) piA piB) hs1 hu (by rw [ByteArray.size_extract] at hle; omega) w)
        clear hu hle
        generalize untilOf (a0.extract i a0.size) piA piB = u at *
        unfold ThreeOf nodeCells at HP
        unfold nodeCells at HR
        go_enter Try.func3, Try.ntmps3
        go_wp2_with (first
          | (go_at_call 5; refine (HI.out _).mono ?_; rintro e w' ⟨rfl, rfl⟩)
          | (go_at_call 6; refine (HH.out _).mono ?_; rintro e w' ⟨rfl, rfl⟩)
          | (go_at_call 7; refine (HP.out _).mono ?_; rintro e w2 ⟨rfl, hb⟩; replace hbel := bel_two hbel hb (Nat.le_refl _); clear hb))
        go_region_with (first
          | (go_at_call 9; refine (HU.out _).mono ?_; rintro e w' ⟨rfl, rfl⟩)
          | (go_at_call 8; refine (HR.out _).mono ?_; rintro e w3 ⟨rfl, hb⟩))
        all_goals (go_wp2; go_ret; exact ⟨rfl, bel_two ((hbel.alloc (by have := hbel.size; omega) _).drew) hb (Nat.le_refl _)⟩)
end Go.Proofs.Ytpdpkggojlpklaa
