/- FnBackslash's walk: for every text and place it returns true and leaves memory below as it was. -/
import Derived.Test.YtigeaoijcjidbaaImplEscape
import Derived.Test.YtigeaoijcjidbaaTexts
import Derived.BigQuiet
import Derived.Deep.QuietTactic
namespace Go.Proofs.Ytigeaoijcjidbaa
open Go.RowKit
theorem bel_drewB {B : Nat} {a w : World} (h : Below B a w) (n : Nat) : Below B a (w.drewN n) := ⟨h.os, h.tape, h.output, h.size, h.block⟩
set_option maxHeartbeats 2000000 in
set_option maxRecDepth 100000 in
theorem walkFnBackslash (a0 : ByteArray) (a1 : Int) (w : World) (w0 : a0.size ≤ maxLen) (_w1 : (Lit.int .i64 a1).wf = true) : Calls Try.prog 12 #[.string a0, .int .i64 a1] w fun e w' => e = .returned (.bool true) ∧ Below w.heap.size w w' := by
  have hs : a0.size ≤ 9223372036854775807 := w0
  have HI := Lib.hid (fun w : World => laws_inside a0 a1 300 w w0)
  cases hin : insideB a0 a1 300 with
  | false =>
    rw [hin] at HI
    go_enter Try.func12, Try.ntmps12
    go_wp2_with (go_at_call 14; refine (HI.out _).mono ?_; rintro e w' ⟨rfl, rfl⟩)
    all_goals (go_ret; exact ⟨rfl, Below.refl _ _⟩)
  | true =>
    rw [hin] at HI
    obtain ⟨h0, h1, h2, h3⟩ := insideB_iff hin
    clear h3 hin
    obtain ⟨i, rfl⟩ := Int.eq_ofNat_of_zero_le h0
    clear h0
    by_cases hl : i = a0.size
    · subst hl
      go_enter Try.func12, Try.ntmps12
      go_wp2_with (go_at_call 14; refine (HI.out _).mono ?_; rintro e w' ⟨rfl, rfl⟩)
      all_goals (go_ret; exact ⟨rfl, Below.refl _ _⟩)
    · have hlt : i < a0.size := by omega
      have hne : ((i : Int) == (a0.size : Int)) = false := beq_eq_false_iff_ne.2 (by omega)
      clear hl
      by_cases hb : (a0[i].toNat : Int) = 92
      · have hbb : ((a0[i].toNat : Int) != 92) = false := by simp [hb]
        clear hb
        have hs1 : a0.size ≤ 1000 := by omega
        by_cases hl1 : i + 1 < a0.size
        · have HP := Lib.hid (fun w => spec_IsPunct (a0[i + 1].toNat : Int) w)
          cases hp : punctB (a0[i + 1].toNat : Int) with
          | true =>
            have HE := Lib.hid (fun w => impl_Escape_punct a0 i w hs1 hl1 hp)
            rw [hp] at HP
            unfold FourOf nodeOf nodeCells at HE
            clear hp
            have hbel : Below w.heap.size w w := Below.refl _ _
            go_enter Try.func12, Try.ntmps12
            go_wp2_with (first
              | (go_at_call 14; refine (HI.out _).mono ?_; rintro e w' ⟨rfl, rfl⟩)
              | (go_at_call 47; refine (HE.out _).mono ?_; rintro e w2 ⟨rfl, hb⟩; replace hbel := bel_two hbel hb (Nat.le_refl _); clear hb)
              | (go_at_call 34; refine (HP.out _).mono ?_; rintro e w' ⟨rfl, rfl⟩))
            go_quiet (fail)
            go_wp2
            go_ret
            refine ⟨ret_bool ?_, bel_drewB (hbel.alloc (by have := hbel.size; omega) _) _⟩
            first | rfl | (simp; done)
          | false =>
            rw [hp] at HP
            by_cases hn : (a0[i + 1].toNat : Int) = 10
            · have HE := Lib.hid (fun w => impl_Escape_hard a0 i w hs1 hl1 hn)
              unfold FourOf nodeOf nodeCells at HE
              have hnn : ((a0[i + 1].toNat : Int) == 10) = true := beq_iff_eq.2 hn
              clear hp hn
              have hbel : Below w.heap.size w w := Below.refl _ _
              go_enter Try.func12, Try.ntmps12
              go_wp2_with (first
                | (go_at_call 14; refine (HI.out _).mono ?_; rintro e w' ⟨rfl, rfl⟩)
                | (go_at_call 47; refine (HE.out _).mono ?_; rintro e w2 ⟨k, rfl, hk1, hk2, hb⟩; replace hbel := bel_two hbel hb (Nat.le_refl _); clear hb)
                | (go_at_call 34; refine (HP.out _).mono ?_; rintro e w' ⟨rfl, rfl⟩))
              go_ret
              refine ⟨ret_bool ?_, hbel.alloc (by have := hbel.size; omega) _⟩
              first | (simp; done) | (simp; omega)
            · have HE := Lib.hid (fun w => impl_Escape_none a0 i w hs1 hlt (by rw [atB_of hl1]; exact hp) (by rw [atB_of hl1]; simpa using hn))
              unfold FourOf nodeOf nodeCells at HE
              have hnn : ((a0[i + 1].toNat : Int) == 10) = false := beq_eq_false_iff_ne.2 hn
              clear hp hn
              have hbel : Below w.heap.size w w := Below.refl _ _
              go_enter Try.func12, Try.ntmps12
              go_wp2_with (first
                | (go_at_call 14; refine (HI.out _).mono ?_; rintro e w' ⟨rfl, rfl⟩)
                | (go_at_call 47; refine (HE.out _).mono ?_; rintro e w2 ⟨rfl, hb⟩; replace hbel := bel_two hbel hb (Nat.le_refl _); clear hb)
                | (go_at_call 34; refine (HP.out _).mono ?_; rintro e w' ⟨rfl, rfl⟩))
              go_ret
              exact ⟨rfl, hbel.alloc (by have := hbel.size; omega) _⟩
        · have HE := Lib.hid (fun w => impl_Escape_none a0 i w hs1 hlt (atB_off (by omega)) (atB_off (by omega)))
          unfold FourOf nodeOf nodeCells at HE
          have hbel : Below w.heap.size w w := Below.refl _ _
          go_enter Try.func12, Try.ntmps12
          go_wp2_with (first
            | (go_at_call 14; refine (HI.out _).mono ?_; rintro e w' ⟨rfl, rfl⟩)
            | (go_at_call 47; refine (HE.out _).mono ?_; rintro e w2 ⟨rfl, hb⟩; replace hbel := bel_two hbel hb (Nat.le_refl _); clear hb))
          go_ret
          exact ⟨rfl, hbel.alloc (by have := hbel.size; omega) _⟩
      · have hbb : ((a0[i].toNat : Int) != 92) = true := by simpa using hb
        go_enter Try.func12, Try.ntmps12
        go_wp2_with (go_at_call 14; refine (HI.out _).mono ?_; rintro e w' ⟨rfl, rfl⟩)
        all_goals (go_ret; exact ⟨rfl, Below.refl _ _⟩)
end Go.Proofs.Ytigeaoijcjidbaa
