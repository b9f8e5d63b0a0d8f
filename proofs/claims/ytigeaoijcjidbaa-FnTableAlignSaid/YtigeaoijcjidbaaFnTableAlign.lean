/- FnTableAlign's walk: for every three numbers it returns true and leaves memory as it was. -/
import Derived.Test.YtigeaoijcjidbaaDelim
import Derived.Deep.QuietTactic
import Derived.BigQuiet
import Derived.OpenShut
namespace Go.Proofs.Ytigeaoijcjidbaa
open Go.RowKit
theorem first_of {x : ByteArray} {c : UInt8} {r : List UInt8} (h0 : 0 < x.size) (h : x.data.toList = c :: r) : x[0] = c := by
  have := toList_head x h0; rw [h] at this; injection this with h1; exact h1.symm
theorem last_of {x : ByteArray} {c : UInt8} {r : List UInt8} (h0 : 0 < x.size) (h : x.data.toList = r ++ [c]) : x[x.size - 1] = c := by
  have := toList_last x h0; rw [h] at this
  have h2 := (List.append_inj' this rfl).2
  simpa using h2.symm
theorem stripF_pad (p : Int → Bool) (hp : p 32 = true) (c : UInt8) (hc : p (c.toNat : Int) = false) (d : List UInt8) : ∀ k : Nat, stripF p (List.replicate k 32 ++ c :: d) = c :: d
  | 0 => stripF_cons_no hc
  | k + 1 => by rw [List.replicate_succ, List.cons_append, stripF_cons_yes (by exact hp), stripF_pad p hp c hc d k]
theorem stripE_pad (p : Int → Bool) (hp : p 32 = true) (c : UInt8) (hc : p (c.toNat : Int) = false) (d : List UInt8) (k : Nat) : stripE p (d ++ [c] ++ List.replicate k 32) = d ++ [c] := by
  unfold stripE
  have := stripF_pad p hp c hc d.reverse k
  unfold stripF at this
  rw [List.reverse_append, List.reverse_replicate, List.reverse_append, List.reverse_singleton, List.singleton_append, this]; simp
/-- the first and the last byte of a delimiter -/
theorem delim_first (a : Int) (h : Nat) (hh : 1 ≤ h) : ∃ r, delimL a h = (if a = 1 ∨ a = 2 then 58 else 45) :: r := by
  obtain ⟨n, rfl⟩ : ∃ n, h = n + 1 := ⟨h - 1, by omega⟩
  unfold delimL preL
  by_cases ha : a = 1 ∨ a = 2
  · simp [ha]
  · simp [ha, List.replicate_succ]
theorem delim_last (a : Int) (h : Nat) (hh : 1 ≤ h) : ∃ r, delimL a h = r ++ [if a = 2 ∨ a = 3 then 58 else 45] := by
  obtain ⟨n, rfl⟩ : ∃ n, h = n + 1 := ⟨h - 1, by omega⟩
  unfold delimL sufL
  by_cases ha : a = 2 ∨ a = 3
  · exact ⟨preL a ++ List.replicate (n + 1) 45, by simp [ha]⟩
  · refine ⟨preL a ++ List.replicate n 45, ?_⟩
    simp [ha, List.replicate_succ']
theorem delim_strip (a : Int) (h k : Nat) (hh : 1 ≤ h) : stripE tabspB (stripF tabspB (List.replicate k 32 ++ delimL a h ++ List.replicate k 32)) = delimL a h := by
  obtain ⟨r, hr⟩ := delim_first a h hh
  obtain ⟨q, hq⟩ := delim_last a h hh
  have h1 : stripF tabspB (List.replicate k 32 ++ (delimL a h ++ List.replicate k 32)) = delimL a h ++ List.replicate k 32 := by
    rw [hr, List.cons_append, stripF_pad tabspB rfl _ (by split <;> rfl)]
  rw [List.append_assoc, h1, hq, stripE_pad tabspB rfl _ (by split <;> rfl)]
theorem align_call (a : Int) (h k : Nat) (s : ByteArray) (w : World) (hh : 1 ≤ h) (h2 : h ≤ 1000) (hk : k ≤ 7) (hs : s.data.toList = List.replicate k 32 ++ delimL a h ++ List.replicate k 32) :
    Calls Try.prog 18 #[.string s] w fun e w' => e = .returned (.string (alignName (decide (a = 1 ∨ a = 2)) (decide (a = 2 ∨ a = 3)))) ∧ w' = w := by
  obtain ⟨r, hr⟩ := delim_first a h hh
  obtain ⟨q, hq⟩ := delim_last a h hh
  have hlen : (delimL a h).length ≤ h + 2 := by unfold delimL preL sufL; simp; split <;> split <;> simp <;> omega
  have hpos : 0 < (⟨(delimL a h).toArray⟩ : ByteArray).size := by show 0 < (delimL a h).length; rw [hr]; simp
  have hz : s.size ≤ maxLen := by rw [Lib.size_eq, hs]; simp [maxLen]; omega
  refine (impl_TableAlign s ⟨(delimL a h).toArray⟩ _ _ w hz (by rw [hs, delim_strip a h k hh]) (by show (delimL a h).length ≤ _; omega) hpos ?_ ?_).mono fun _ _ hx => ⟨hx.1, hx.2.symm⟩
  · rw [first_of (c := if a = 1 ∨ a = 2 then 58 else 45) (r := r) hpos (by simpa using hr)]
    by_cases ha : a = 1 ∨ a = 2 <;> simp [ha]
  · rw [last_of (c := if a = 2 ∨ a = 3 then 58 else 45) (r := q) hpos (by simpa using hq)]
    by_cases ha : a = 2 ∨ a = 3 <;> simp [ha]
theorem bel_drewN {B : Nat} {a w : World} (h : Below B a w) (n : Nat) : Below B a (w.drewN n) := ⟨h.os, h.tape, h.output, h.size, h.block⟩
theorem tab0 (w : World) : (Instr.index 30 (.agg #[.string ⟨#[]⟩, .string ⟨#[108, 101, 102, 116]⟩, .string ⟨#[99, 101, 110, 116, 101, 114]⟩, .string ⟨#[114, 105, 103, 104, 116]⟩]) (.int .i64 0)).run Try.prog w = .ok (.string ⟨#[]⟩) w := by kernel_rfl
theorem tab1 (w : World) : (Instr.index 30 (.agg #[.string ⟨#[]⟩, .string ⟨#[108, 101, 102, 116]⟩, .string ⟨#[99, 101, 110, 116, 101, 114]⟩, .string ⟨#[114, 105, 103, 104, 116]⟩]) (.int .i64 1)).run Try.prog w = .ok (.string ⟨#[108, 101, 102, 116]⟩) w := by kernel_rfl
theorem tab2 (w : World) : (Instr.index 30 (.agg #[.string ⟨#[]⟩, .string ⟨#[108, 101, 102, 116]⟩, .string ⟨#[99, 101, 110, 116, 101, 114]⟩, .string ⟨#[114, 105, 103, 104, 116]⟩]) (.int .i64 2)).run Try.prog w = .ok (.string ⟨#[99, 101, 110, 116, 101, 114]⟩) w := by kernel_rfl
theorem tab3 (w : World) : (Instr.index 30 (.agg #[.string ⟨#[]⟩, .string ⟨#[108, 101, 102, 116]⟩, .string ⟨#[99, 101, 110, 116, 101, 114]⟩, .string ⟨#[114, 105, 103, 104, 116]⟩]) (.int .i64 3)).run Try.prog w = .ok (.string ⟨#[114, 105, 103, 104, 116]⟩) w := by kernel_rfl
set_option maxHeartbeats 1000000 in
theorem walkFnTableAlign (a0 : Int) (a1 : Int) (a2 : Int) (w : World) (w0 : (Lit.int .u8 a0).wf = true) (_w1 : (Lit.int .i64 a1).wf = true) (w2 : (Lit.int .u8 a2).wf = true) :
    Calls Try.prog 5 #[.int .u8 a0, .int .i64 a1, .int .u8 a2] w fun e w' => e = .returned (.bool true) ∧ Below w.heap.size w w' := by
  obtain ⟨b0, b1⟩ := bounds_u8 w0
  obtain ⟨c0, c1⟩ := bounds_u8 w2
  by_cases hh : a1 < 1 ∨ 1000 < a1
  · go_enter Try.func5, Try.ntmps5
    go_wp2_with (fail)
    all_goals first
      | (go_ret; exact ⟨rfl, Below.refl _ _⟩)
      | (exfalso; omega)
  · have h1 : 1 ≤ a1 := by omega
    have h2 : a1 ≤ 1000 := by omega
    have hd1 : decide (a1 < 1) = false := by simp; omega
    have hd2 : decide (1000 < a1) = false := by simp; omega
    clear hh
    obtain ⟨h, rfl⟩ := Int.eq_ofNat_of_zero_le (by omega : 0 ≤ a1)
    have hr : a0 % 4 = 0 ∨ a0 % 4 = 1 ∨ a0 % 4 = 2 ∨ a0 % 4 = 3 := by omega
    obtain ⟨D, hD⟩ : ∃ D : ByteArray, D = ⟨(delimL (a0 % 4) h).toArray⟩ := ⟨_, rfl⟩
    have hDs : D.size ≤ 1002 := by
      subst hD
      show (delimL (a0 % 4) h).length ≤ 1002
      unfold delimL preL sufL; simp; split <;> split <;> simp <;> omega
    have HDel := Lib.hid (fun w : World => (laws_delimiter (a0 % 4) h w (by omega) (by omega) (by omega)).mono fun _ _ hx => (⟨hx.1, hx.2.symm⟩ : _ ∧ _))
    rw [← hD] at HDel
    have HD : Hid (D.data.toList = delimL (a0 % 4) h) := by subst hD; rfl
    clear hD
    obtain ⟨N, hN⟩ : ∃ N, N = alignName (decide (a0 % 4 = 1 ∨ a0 % 4 = 2)) (decide (a0 % 4 = 2 ∨ a0 % 4 = 3)) := ⟨_, rfl⟩
    have HAl := Lib.hid (fun (s : ByteArray) (k : Nat) (w : World) (hk : k ≤ 7) => align_call (a0 % 4) h k s w (by omega) (by omega) hk)
    rw [← hN] at HAl
    have HN := Lib.hid hN; clear hN
    generalize delimL (a0 % 4) h = L at *
    generalize hre : a0 % 4 = r at *
    rcases hr with rfl | rfl | rfl | rfl
    all_goals
      go_enter Try.func5, Try.ntmps5
      go_wp2_with (fail)
      go_loopg [8, 20] (a2 % 8).toNat (fun g s j wx => ∃ (k : Nat) (t : ByteArray), (k : Int) + g = a2 % 8 ∧ j = .int .u8 k ∧ s = .string t ∧ Hid (t.data.toList = List.replicate k 32) ∧ t.size ≤ k ∧ w = wx)
      case atStart => exact ⟨0, _, by omega, rfl, rfl, Lib.hid rfl, Nat.le_refl _, rfl⟩
      case round =>
        obtain ⟨k, t, hkg, rfl, rfl, HT, hts, rfl⟩ := hrel
        have hk7 : (k : Int) ≤ 7 := by omega
        by_cases hk : (k : Int) < a2 % 8
        · go_wp2_with (fail)
          go_roundg (gk - 1)
          case measure => omega
          case rel => exact ⟨k + 1, _, by omega, by go_num, rfl, Lib.hid (by rw [append_list, HT.out, List.replicate_succ']), by rw [ByteArray.size_append]; show t.size + 1 ≤ _; omega, rfl⟩
        · go_wp2_with (fail)
          have hq1 : t.size + D.size ≤ 9223372036854775807 := by omega
          have hq2 : (t ++ D).size + t.size ≤ 9223372036854775807 := by rw [ByteArray.size_append]; omega
          have hA1 : ∀ w : World, (Op.stringOp .add t D).run Try.prog w = .ok (.string (t ++ D)) w := fun w => run_string_add_sum w t D hq1
          have hA2 : ∀ w : World, (Op.stringOp .add (t ++ D) t).run Try.prog w = .ok (.string (t ++ D ++ t)) w := fun w => run_string_add_sum w _ t hq2
          clear hq1 hq2
          have hI0 := tab0
          have hI1 := tab1
          have hI2 := tab2
          have hI3 := tab3
          have hsum : (t ++ D ++ t).data.toList = List.replicate k 32 ++ L ++ List.replicate k 32 := by rw [append_list, append_list, HT.out, HD.out]
          have HA := Lib.hid (fun w : World => HAl.out _ k w (by omega) hsum)
          clear hsum
          go_quiet ((first
            | (go_at_call 19; exact Calls.quiet_of_same (HDel.out _))
            | (go_at_call 18; exact Calls.quiet_of_same (HA.out _))))
          go_wp2
          go_ret
          exact ⟨ret_bool (by rw [HN.out, Lib.toList_data]; simp [alignName]), bel_drewN (Below.refl _ _) _⟩
end Go.Proofs.Ytigeaoijcjidbaa
