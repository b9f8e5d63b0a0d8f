/- The values of attributes, as the reference and the package read them. -/
import Derived.Test.YtigeaoijcjidbaaBytes
import Derived.Test.YtigeaoijcjidbaaSearchPlain
import Derived.Test.YtigeaoijcjidbaaShelf
import Derived.Deep.LoopGhost
import Derived.Deep.DeepCutAuto
import Derived.Deep.QuietTactic
import Derived.BigQuiet
import Derived.Deep.Light
namespace Go.Proofs.Ytigeaoijcjidbaa
open Go.RowKit
theorem bel_drews {B : Nat} {a w : World} (h : Below B a w) (n : Nat) : Below B a (w.drewN n) := ⟨h.os, h.tape, h.output, h.size, h.block⟩
/-- a byte that may stand in a value without quotation marks -/
def unqB (c : Int) : Bool := !(spaceB c || c == 34 || c == 39 || c == 61 || c == 60 || c == 62 || c == 96)
/-- the place behind the byte that ends a quoted value -/
def quoteEnd (s : ByteArray) (i : Nat) (q : Int) : Option Nat := if scan (fun d => d != q) s.data.toList (i + 1) < s.size then some (scan (fun d => d != q) s.data.toList (i + 1) + 1) else none
def plainEnd (s : ByteArray) (i : Nat) : Option Nat := if scan unqB s.data.toList i = i then none else some (scan unqB s.data.toList i)
/-- the end of a value -/
def valEnd (s : ByteArray) (i : Nat) : Option Nat :=
  if h : i < s.size then (if (s[i].toNat : Int) = 34 ∨ (s[i].toNat : Int) = 39 then quoteEnd s i (s[i].toNat : Int) else plainEnd s i) else none
theorem blank_space2 {c : Int} (h : linB c = true) : blankB c = spaceB c := by
  simp only [linB, Bool.or_eq_true, Bool.and_eq_true, beq_iff_eq, decide_eq_true_eq] at h
  rw [Bool.eq_iff_iff]; simp [blankB, spaceB]; omega
set_option maxHeartbeats 2000000 in
theorem spec_attrValue (s : ByteArray) (i : Nat) (w : World) (hs : s.size ≤ 900) (hi : i ≤ s.size) (ha : allB linB s.data.toList = true) :
    Calls Try.prog 67 #[.string s, .int .i64 i] w fun e w' => e = .returned (.int .i64 (idxInt (valEnd s i))) ∧ Below w.heap.size w w' := by
  obtain ⟨V, hV⟩ : ∃ V, V = idxInt (valEnd s i) := ⟨_, rfl⟩
  have HV := Lib.hid hV; rw [← hV]; clear hV
  have HA := Lib.hid ha; clear ha
  by_cases hlt : i < s.size
  · by_cases hq : (s[i].toNat : Int) = 34 ∨ (s[i].toNat : Int) = 39
    · have hE : valEnd s i = quoteEnd s i (s[i].toNat : Int) := by unfold valEnd; rw [dif_pos hlt, if_pos hq]
      have HE := Lib.hid hE
      have hsl := scan_size (fun d => d != (s[i].toNat : Int)) s (i + 1) (by omega)
      have hge : decide (s.size ≤ i) = false := by simp; omega
      obtain ⟨q, hqq⟩ : ∃ q : Int, q = (s[i].toNat : Int) := ⟨_, rfl⟩
      rw [← hqq] at HE hq hsl
      have HQ := Lib.hid hqq.symm
      clear hE hqq
      go_enter Try.func67, Try.ntmps67
      go_upto_region 3 with (fail)
      go_cut [20] from 11 to 20 (fun v wx => v = .bool true ∧ w = wx)
      case first =>
        go_wp2
        all_goals (go_meet; refine ⟨congrArg Value.bool ?_, rfl⟩; have hQ := HQ.out; first | rfl | (simp_all; done))
      case rest =>
        obtain ⟨rfl, rfl⟩ := hcut
        go_wp2
        go_loopg [5] (s.size - (i + 1)) (fun g j wx => ∃ (k n : Nat), i + 1 ≤ k ∧ k + g = s.size ∧ j = .int .i64 k ∧ Hid (scan (fun d => d != q) s.data.toList k = scan (fun d => d != q) s.data.toList (i + 1)) ∧ wx = w.drewN n)
        case atStart => exact ⟨i + 1, 0, by omega, by omega, by go_num, Lib.hid rfl, rfl⟩
        case round =>
          obtain ⟨k, n, hk, hkg, rfl, HR, rfl⟩ := hrel
          by_cases hkl : k < s.size
          · by_cases he : (s[k].toNat : Int) = q
            · have hb : ((s[k].toNat : Int) == (s[i].toNat : Int)) = true := by rw [HQ.out, beq_iff_eq]; exact he
              have hend : valEnd s i = some (k + 1) := by
                have := scan_stop (fun d => d != q) s k hkl (by simp [he])
                rw [HE.out, quoteEnd, ← HR.out, this, if_pos hkl]
              have HEnd := Lib.hid hend
              clear hend he
              go_wp2
              go_quiet (fail)
              go_wp2
              go_ret
              exact ⟨ret_int (by rw [HV.out, HEnd.out]; simp [idxInt]), bel_drews (Below.refl _ _) _⟩
            · have hb : ((s[k].toNat : Int) == (s[i].toNat : Int)) = false := by rw [HQ.out, beq_eq_false_iff_ne]; exact he
              have HN := Lib.hid ((scan_step (fun d => d != q) s k hkl (by simp [he])).symm.trans HR.out)
              clear he
              go_wp2
              go_quiet (fail)
              go_wp2
              go_roundg (gk - 1)
              case measure => omega
              case rel => exact ⟨k + 1, _, by omega, by omega, by go_num, HN, rfl⟩
          · have hend : valEnd s i = none := by
              have := scan_end (fun d => d != q) s k (by omega)
              rw [HE.out, quoteEnd, ← HR.out, this, if_neg hkl]
            have HEnd := Lib.hid hend
            clear hend
            go_wp2
            go_ret
            exact ⟨ret_int (by rw [HV.out, HEnd.out]; rfl), bel_drews (Below.refl _ _) _⟩
    · have hE : valEnd s i = plainEnd s i := by unfold valEnd; rw [dif_pos hlt, if_neg hq]
      have HE := Lib.hid hE; clear hE
      have hge : decide (s.size ≤ i) = false := by simp; omega
      have hq1 : ((s[i].toNat : Int) == 34) = false := beq_eq_false_iff_ne.2 (fun h => hq (Or.inl h))
      have hq2 : ((s[i].toNat : Int) == 39) = false := beq_eq_false_iff_ne.2 (fun h => hq (Or.inr h))
      clear hq
      go_enter Try.func67, Try.ntmps67
      go_wp2_with (fail)
      go_loopg [6] (s.size - i) (fun g j wx => ∃ k : Nat, i ≤ k ∧ k + g = s.size ∧ j = .int .i64 k ∧ Hid (scan unqB s.data.toList k = scan unqB s.data.toList i) ∧ w = wx)
      case atStart => exact ⟨i, by omega, by omega, rfl, Lib.hid rfl, rfl⟩
      case round =>
        obtain ⟨k, hk, hkg, rfl, HR, rfl⟩ := hrel
        have HBl := Lib.hid (fun h : k < s.size => blank_space2 (allB_get linB s HA.out k h))
        go_upto_region 11 with (fail)
        go_cut [85] from 39 to 85 (fun v wx => v = .bool (atB unqB s k) ∧ w = wx)
        case first =>
          go_wp2_with (go_at_call 15; refine (spec_IsBlank _ _).mono ?_; rintro e w' ⟨rfl, rfl⟩)
          all_goals (go_meet; refine ⟨congrArg Value.bool ?_, rfl⟩; go_light; first | (simp [atB, *]; done) | (have hb := HBl.out ‹_›; clear HBl; simp_all [atB, unqB]; done) | (have hb := HBl.out ‹_›; clear HBl; rw [Bool.eq_iff_iff]; simp_all [atB, unqB]; done))
        case rest =>
          obtain ⟨rfl, rfl⟩ := hcut
          cases hB : atB unqB s k with
          | true =>
            have hkl := atB_lt hB
            go_wp2
            go_roundg (gk - 1)
            case measure => omega
            case rel => exact ⟨k + 1, by omega, by omega, by go_num, Lib.hid ((scan_yes hB).symm.trans HR.out), rfl⟩
          | false =>
            have HK := Lib.hid ((scan_no hB).symm.trans HR.out)
            by_cases hki : k = i
            · subst hki
              have HN := Lib.hid (show valEnd s k = none by rw [HE.out, plainEnd, if_pos HK.out.symm])
              go_wp2
              go_ret
              exact ⟨ret_int (by rw [HV.out, HN.out]; rfl), Below.refl _ _⟩
            · have hne : ((k : Int) == (i : Int)) = false := beq_eq_false_iff_ne.2 (by omega)
              have HN := Lib.hid (show valEnd s i = some k by rw [HE.out, plainEnd, ← HK.out, if_neg hki])
              clear hki
              go_wp2
              go_ret
              exact ⟨ret_int (by rw [HV.out, HN.out]; rfl), Below.refl _ _⟩
  · have HN := Lib.hid (show valEnd s i = none by unfold valEnd; rw [dif_neg hlt])
    go_enter Try.func67, Try.ntmps67
    go_wp2
    go_ret
    exact ⟨ret_int (by rw [HV.out, HN.out]; rfl), Below.refl _ _⟩
end Go.Proofs.Ytigeaoijcjidbaa
