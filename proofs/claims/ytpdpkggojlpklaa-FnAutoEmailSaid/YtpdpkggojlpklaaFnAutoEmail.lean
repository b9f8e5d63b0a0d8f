/- FnAutoEmail's walk: for every text and place it returns true and leaves memory below as it was. -/
import Derived.Test.YtpdpkggojlpklaaMailImpl
import Derived.Test.YtpdpkggojlpklaaReadAuto
import Derived.Test.YtpdpkggojlpklaaTexts
import Derived.Deep.QuietTactic
import Derived.BigQuiet
namespace Go.Proofs.Ytpdpkggojlpklaa
open Go.RowKit
theorem mailEnd_abs (s : ByteArray) (i : Nat) (hi : i < s.size) :
    mailEnd (mailL (s.data.toList.drop (i + 1))) s.size = if refMail (s.data.toList.drop (i + 1)) then some (scan gutB s.data.toList (i + 1)) else none := by
  have h1 := mailEnd_ref (s.data.toList.drop (i + 1))
  have h2 : (gutL (s.data.toList.drop (i + 1))).length = scan gutB s.data.toList (i + 1) - (i + 1) := lft_scan _ _ _
  have h3 := le_scan gutB s.data.toList (i + 1)
  rw [h2] at h1
  cases hr : refMail (s.data.toList.drop (i + 1)) with
  | false =>
    rw [hr, if_neg (by simp)] at h1
    rw [if_neg (by simp)]
    unfold mailEnd at h1 ⊢
    split at h1
    · split at h1
      · cases h1
      · rename_i hc; simp only [if_neg hc]
    · rfl
  | true =>
    rw [hr, if_pos rfl] at h1
    rw [if_pos rfl]
    unfold mailEnd at h1 ⊢
    split at h1
    · rename_i c r he
      split at h1
      · rename_i hc
        simp only [if_pos hc]
        injection h1 with h1
        obtain ⟨b, hb, _⟩ := mailL_end _ _ he
        have := congrArg List.length hb
        simp at this h1
        congr 1; omega
      · cases h1
    · cases h1
theorem extract_two (s : ByteArray) (i d : Nat) : (s.extract i s.size).extract 1 d = s.extract (i + 1) (i + d) := by
  apply ByteArray.ext
  apply Array.toList_inj.1
  rw [Lib.extract_data, tail_list, Lib.extract_data, List.drop_drop, show i + d - (i + 1) = d - 1 by omega]
theorem text_ne (T : ByteArray) : (T.toList == (mailtoM ++ T).toList) = false := by
  rw [beq_eq_false_iff_ne]
  intro h
  rw [Lib.toList_data, Lib.toList_data] at h
  have := congrArg List.length h
  simp [mailtoM] at this
  omega
set_option maxHeartbeats 4000000 in
set_option maxRecDepth 100000 in
theorem walkFnAutoEmail (a0 : ByteArray) (a1 : Int) (w : World) (w0 : a0.size ≤ maxLen) (_w1 : (Lit.int .i64 a1).wf = true) : Calls Try.prog 4 #[.string a0, .int .i64 a1] w fun e w' => e = .returned (.bool true) ∧ Below w.heap.size w w' := by
  have hs : a0.size ≤ 9223372036854775807 := w0
  have HI := Lib.hid (fun w : World => laws_inside a0 a1 200 w w0)
  cases hin : insideB a0 a1 200 with
  | false =>
    rw [hin] at HI
    go_enter Try.func4, Try.ntmps4
    go_wp2_with (go_at_call 5; refine (HI.out _).mono ?_; rintro e w' ⟨rfl, rfl⟩)
    all_goals (go_ret; exact ⟨rfl, Below.refl _ _⟩)
  | true =>
    rw [hin] at HI
    obtain ⟨hh0, hh1, hh2, hh3⟩ := insideB_iff hin
    clear hh3 hin
    obtain ⟨i, rfl⟩ := Int.eq_ofNat_of_zero_le hh0
    clear hh0
    have hs1 : a0.size ≤ 1000 := by omega
    by_cases hi : i < a0.size
    · have e0 : ((i : Int) == (a0.size : Int)) = false := beq_eq_false_iff_ne.2 (by omega)
      by_cases hc : (a0[i].toNat : Int) = 60
      · have e1 : ((a0[i].toNat : Int) != 60) = false := by rw [hc]; rfl
        have hab := mailEnd_abs a0 i hi
        have hul : (a0.extract i a0.size).size = a0.size - i := by rw [ByteArray.size_extract]; omega
        have hRA := fun w => spec_ReadAuto (a0.extract i a0.size) w (by omega) (by omega) (by rw [ByteArray.getElem_extract]; simpa using hc)
        have hdl : (a0.extract i a0.size).data.toList.drop 1 = a0.data.toList.drop (i + 1) := by rw [tail_list, List.drop_drop]
        have hle := le_scan gutB a0.data.toList (i + 1)
        have hsz := scan_size gutB a0 (i + 1) (by omega)
        have hsc : scan gutB (a0.extract i a0.size).data.toList 1 = scan gutB a0.data.toList (i + 1) - i := by
          rw [tail_list]; unfold scan; rw [List.drop_drop]; omega
        unfold readRes at hRA
        rw [hdl] at hRA
        have hbel : Below w.heap.size w w := Below.refl _ _
        cases hr : refMail (a0.data.toList.drop (i + 1)) with
        | false =>
          rw [hr, if_neg (by simp)] at hab
          rw [hr] at hRA
          have HP := Lib.hid (fun w => impl_Mail_none a0 i w hs1 hi hc hab)
          have HR := Lib.hid hRA
          simp only [Bool.false_eq_true, if_false] at HR
          unfold ThreeOf nodeCells at HP
          unfold ReadSame at HR
          clear hab hRA hdl hle hsc hr hul hc hsz
          go_enter Try.func4, Try.ntmps4
          go_wp2_with (first
            | (go_at_call 5; refine (HI.out _).mono ?_; rintro e w' ⟨rfl, rfl⟩)
            | (go_at_call 10; refine (HP.out _).mono ?_; rintro e w2 ⟨rfl, hb⟩; replace hbel := bel_two hbel hb (Nat.le_refl _); clear hb)
            | (go_at_call 11; refine (HR.out _).mono ?_; rintro e w' ⟨t, n, rfl, rfl⟩))
          all_goals (go_ret; refine ⟨ret_bool ?_, ?_⟩)
          all_goals first | exact hbel.alloc (by have := hbel.size; omega) _ | rfl | exact beq_iff_eq.2 (by omega)
        | true =>
          rw [hr, if_pos rfl] at hab
          rw [hr] at hRA
          have HP := fun w => impl_Mail_some a0 i _ w hs1 hi hc hab
          simp only [if_true] at hRA
          unfold ReadMail at hRA
          rw [hsc, extract_two, show i + (scan gutB a0.data.toList (i + 1) - i) = scan gutB a0.data.toList (i + 1) by omega] at hRA
          obtain ⟨d, hd⟩ : ∃ d : Nat, scan gutB a0.data.toList (i + 1) = i + 1 + d := ⟨scan gutB a0.data.toList (i + 1) - (i + 1), by omega⟩
          have hd2 : i + 1 + d ≤ a0.size := by omega
          rw [hd] at HP hRA
          rw [show i + 1 + d - i = d + 1 by omega] at hRA
          have ht := text_ne (a0.extract (i + 1) (i + 1 + d))
          have HP := Lib.hid HP
          have HR := Lib.hid hRA
          unfold OneMade ThreeOf IsLink linkCells at HP
          rw [show mailtoS = mailtoM from rfl] at HR
          clear hab hRA hdl hle hsc hr hul hc hd hsz
          generalize a0.extract (i + 1) (i + 1 + d) = T at *
          generalize mailtoM ++ T = D at *
          go_enter Try.func4, Try.ntmps4
          go_wp2_with (first
            | (go_at_call 5; refine (HI.out _).mono ?_; rintro e w' ⟨rfl, rfl⟩)
            | (go_at_call 10; refine (HP.out _).mono ?_; rintro e w2 ⟨_, ⟨g, rfl⟩, rfl, hb⟩; replace hbel := bel_two hbel hb (Nat.le_refl _); clear hb)
            | (go_at_call 11; refine (HR.out _).mono ?_; rintro e w' ⟨rfl, rfl⟩))
          all_goals (go_ret; refine ⟨ret_bool ?_, ?_⟩)
          all_goals first | exact hbel.alloc (by have := hbel.size; omega) _ | rfl | exact beq_iff_eq.2 (by omega)
      · have e1 : ((a0[i].toNat : Int) != 60) = true := by rw [bne_iff_ne]; exact hc
        clear hc
        go_enter Try.func4, Try.ntmps4
        go_wp2_with (go_at_call 5; refine (HI.out _).mono ?_; rintro e w' ⟨rfl, rfl⟩)
        go_ret
        exact ⟨rfl, Below.refl _ _⟩
    · have e0 : ((i : Int) == (a0.size : Int)) = true := beq_iff_eq.2 (by omega)
      go_enter Try.func4, Try.ntmps4
      go_wp2_with (go_at_call 5; refine (HI.out _).mono ?_; rintro e w' ⟨rfl, rfl⟩)
      go_ret
      exact ⟨rfl, Below.refl _ _⟩
end Go.Proofs.Ytpdpkggojlpklaa
