/- The reference's escape of an address: at printable texts it is the package's. -/
import Derived.Test.YtpdpkggojlpklaaDoorPairsPlain
import Derived.Test.YtpdpkggojlpklaaDoorBytes
import Derived.Test.YtpdpkggojlpklaaDoorScan
import Derived.Test.YtpdpkggojlpklaaDoorStripPlain
import Derived.Deep.LoopGhost
import Derived.RegionTactic
import Derived.Deep.QuietTactic
import Derived.BigQuiet
namespace Go.Proofs.YtpdpkggojlpklaaDoor
open Go.RowKit
def safeS : ByteArray := ⟨#[45, 95, 46, 43, 33, 42, 39, 40, 41, 44, 37, 35, 64, 63, 61, 59, 58, 47, 38, 36, 126, 124]⟩
/-- a byte that stays as it is in a destination -/
def safeB (c : Int) : Bool := alnB c || safeS.data.toList.any fun d => c == (d.toNat : Int)
theorem safe_take (c : Int) (k : Nat) (h : k < safeS.size) (hno : (safeS.data.toList.take k).any (fun d => c == (d.toNat : Int)) = false) (hc : ¬ c = (safeS[k].toNat : Int)) : (safeS.data.toList.take (k + 1)).any (fun d => c == (d.toNat : Int)) = false := by
  rw [take_snoc safeS k h, List.any_append, hno]; simp [hc]
theorem safe_hit (c : Int) (k : Nat) (h : k < safeS.size) (hc : c = (safeS[k].toNat : Int)) : safeB c = true := by
  unfold safeB
  rw [Bool.or_eq_true, List.any_eq_true]
  exact .inr ⟨safeS[k], by rw [Array.mem_toList_iff]; exact Array.getElem_mem h, by simpa using hc⟩
theorem safe_miss (c : Int) (hno : safeS.data.toList.any (fun d => c == (d.toNat : Int)) = false) (ha : alnB c = false) : safeB c = false := by
  unfold safeB
  rw [ha, Bool.false_or]; exact hno
theorem safe_aln {c : Int} (ha : alnB c = true) : safeB c = true := by unfold safeB; rw [ha]; rfl
set_option maxHeartbeats 1000000 in
theorem spec_isSafe (c : Int) (w : World) : Calls Tryd.prog 12 #[.int .u8 c] w fun e w' => e = .returned (.bool (safeB c)) ∧ w = w' := by
  have HL := Lib.hid (fun w => spec_IsLetter c w)
  have HD := Lib.hid (fun w => spec_IsDigit c w)
  cases hl : letB c with
  | true =>
    have HU := Lib.hid (safe_aln (c := c) (by unfold alnB; rw [hl]; rfl))
    rw [hl] at HL
    clear hl
    generalize safeB c = U at *
    go_enter Tryd.func12, Tryd.ntmps12
    go_wp2_with (go_at_call 20; refine (HL.out _).mono ?_; rintro e w' ⟨rfl, rfl⟩)
    go_ret
    exact ⟨ret_bool HU.out.symm, rfl⟩
  | false =>
  cases hd : digB c with
  | true =>
    have HU := Lib.hid (safe_aln (c := c) (by unfold alnB; rw [hd]; simp))
    rw [hl] at HL
    rw [hd] at HD
    clear hl hd
    generalize safeB c = U at *
    go_enter Tryd.func12, Tryd.ntmps12
    go_wp2_with (first | (go_at_call 20; refine (HL.out _).mono ?_; rintro e w' ⟨rfl, rfl⟩) | (go_at_call 21; refine (HD.out _).mono ?_; rintro e w' ⟨rfl, rfl⟩))
    go_ret
    exact ⟨ret_bool HU.out.symm, rfl⟩
  | false =>
    have ha : alnB c = false := by unfold alnB; rw [hl, hd]; rfl
    have HH := Lib.hid (fun k h hc => safe_hit c k h hc)
    have HM := Lib.hid (fun h => safe_miss c h ha)
    rw [hl] at HL
    rw [hd] at HD
    clear hl hd ha
    generalize safeB c = U at *
    go_enter Tryd.func12, Tryd.ntmps12
    go_wp2_with (first | (go_at_call 20; refine (HL.out _).mono ?_; rintro e w' ⟨rfl, rfl⟩) | (go_at_call 21; refine (HD.out _).mono ?_; rintro e w' ⟨rfl, rfl⟩))
    have HT := Lib.hid (fun k h => safe_take c k h)
    go_loopg [3] 22 (fun g j wx => ∃ k : Nat, k + g = 22 ∧ j = .int .i64 k ∧ Hid ((safeS.data.toList.take k).any (fun d => c == (d.toNat : Int)) = false) ∧ w = wx)
    case atStart => exact ⟨0, by omega, rfl, Lib.hid rfl, rfl⟩
    case round =>
      obtain ⟨k, hkg, rfl, HK, rfl⟩ := hrel
      by_cases hk : k < 22
      · have hks : k < safeS.size := hk
        by_cases hc : c = (safeS[k].toNat : Int)
        · have HY := Lib.hid (HH.out k hk hc)
          have hcb : ((((⟨#[45, 95, 46, 43, 33, 42, 39, 40, 41, 44, 37, 35, 64, 63, 61, 59, 58, 47, 38, 36, 126, 124]⟩ : ByteArray)[k]'hks).toNat : Int) == c) = true := beq_iff_eq.2 hc.symm
          clear hc
          go_wp2_with (fail)
          go_ret
          exact ⟨ret_bool HY.out.symm, rfl⟩
        · have HN := Lib.hid (HT.out k hk HK.out hc)
          have hcb : ((((⟨#[45, 95, 46, 43, 33, 42, 39, 40, 41, 44, 37, 35, 64, 63, 61, 59, 58, 47, 38, 36, 126, 124]⟩ : ByteArray)[k]'hks).toNat : Int) == c) = false := beq_eq_false_iff_ne.2 (fun h => hc h.symm)
          clear hc
          go_wp2_with (fail)
          go_roundg (gk - 1)
          case measure => omega
          case rel => exact ⟨k + 1, by omega, by go_num, HN, rfl⟩
      · have HN := Lib.hid (HM.out (by have := HK.out; rwa [List.take_of_length_le (by show safeS.data.size ≤ k; simp [safeS]; omega)] at this))
        go_wp2_with (fail)
        go_ret
        exact ⟨ret_bool HN.out.symm, rfl⟩
/-- the reference's escape of a byte -/
def urlE (c : UInt8) : List UInt8 := if c = 38 then [38, 97, 109, 112, 59] else if safeB (c.toNat : Int) then [c] else [37, hexU (c.toNat / 16), hexU (c.toNat % 16)]
/-- at printable bytes it is the package's -/
theorem urlE_link : ∀ c : UInt8, 32 ≤ c.toNat → c.toNat ≤ 126 → (if linkK.contains c then linkE c else [c]) = urlE c := by
  have h : ∀ n : Fin 95, (if linkK.contains (n.val + 32).toUInt8 then linkE (n.val + 32).toUInt8 else [(n.val + 32).toUInt8]) = urlE (n.val + 32).toUInt8 := by decide +kernel
  intro c h1 h2
  have := h ⟨c.toNat - 32, by omega⟩
  simp only [show c.toNat - 32 + 32 = c.toNat by omega] at this
  have e : c.toNat.toUInt8 = c := by simp
  rwa [e] at this
def urlL (l : List UInt8) : List UInt8 := l.flatMap urlE
theorem urlL_append (l m : List UInt8) : urlL (l ++ m) = urlL l ++ urlL m := by unfold urlL; rw [List.flatMap_append]
theorem urlL_link : ∀ l : List UInt8, (∀ c ∈ l, 32 ≤ c.toNat ∧ c.toNat ≤ 126) → escP linkK linkE l = urlL l
  | [], _ => rfl
  | c :: l, h => by
    have e1 : escP linkK linkE (c :: l) = (if linkK.contains c then linkE c else [c]) ++ escP linkK linkE l := by unfold escP; rw [List.flatMap_cons]
    have e2 : urlL (c :: l) = urlE c ++ urlL l := by unfold urlL; rw [List.flatMap_cons]
    rw [e1, e2, urlE_link c (h c (by simp)).1 (h c (by simp)).2, urlL_link l fun d hd => h d (by simp [hd])]
end Go.Proofs.YtpdpkggojlpklaaDoor
