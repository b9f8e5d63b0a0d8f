/- The reference's EscapeURL, walked. -/
import Derived.Test.YtpdpkggojlpklaaDoorEscURL
namespace Go.Proofs.YtpdpkggojlpklaaDoor
open Go.RowKit
def digS : ByteArray := ⟨#[48, 49, 50, 51, 52, 53, 54, 55, 56, 57, 65, 66, 67, 68, 69, 70]⟩
theorem dig_cut : ∀ n : Fin 16, (digS.extract n.val (n.val + 1)).data.toList = [hexU n.val] := by decide +kernel
theorem dig_at (n : Nat) (h : n < 16) : (digS.extract n (n + 1)).data.toList = [hexU n] := dig_cut ⟨n, h⟩
theorem bel_drewU {B : Nat} {a w : World} (h : Below B a w) (n : Nat) : Below B a (w.drewN n) := ⟨h.os, h.tape, h.output, h.size, h.block⟩
set_option maxHeartbeats 2000000 in
theorem spec_EscapeURL (s : ByteArray) (w : World) (hs : s.size ≤ 100000) : Calls Tryd.prog 7 #[.string s] w fun e w' => e = .returned (.string ⟨(urlL s.data.toList).toArray⟩) ∧ Below w.heap.size w w' := by
  have hrefl : Below w.heap.size w w := Below.refl _ _
  go_enter Tryd.func7, Tryd.ntmps7
  go_wp2_with (fail)
  go_loopg [3, 4] s.size (fun g o j wx => ∃ (k : Nat) (O : ByteArray), k + g = s.size ∧ o = .string O ∧ j = .int .i64 k ∧ Hid (O.data.toList = urlL (s.data.toList.take k)) ∧ O.size ≤ 5 * k ∧ Below w.heap.size w wx)
  case atStart => exact ⟨0, ⟨#[]⟩, by omega, rfl, rfl, Lib.hid rfl, by decide, hrefl⟩
  case round =>
    obtain ⟨k, O, hkg, rfl, rfl, HO, hO, hbel⟩ := hrel
    clear hrefl
    by_cases hk : k < s.size
    · have hst : urlL (s.data.toList.take (k + 1)) = urlL (s.data.toList.take k) ++ urlE s[k] := by
        rw [take_snoc s k hk, urlL_append]; unfold urlL; simp
      by_cases hc : (s[k].toNat : Int) = 38
      · have e1 : ((s[k].toNat : Int) == 38) = true := beq_iff_eq.2 hc
        have HS : Hid (urlL (s.data.toList.take (k + 1)) = urlL (s.data.toList.take k) ++ [38, 97, 109, 112, 59]) := Lib.hid (by
          rw [hst]; unfold urlE; rw [if_pos (UInt8.toNat_inj.1 (by show s[k].toNat = 38; omega))])
        clear hst hc
        go_wp2_with (fail)
        go_roundg (s.size - (k + 1))
        case measure => omega
        case rel => exact ⟨k + 1, O ++ ⟨#[38, 97, 109, 112, 59]⟩, by omega, rfl, by go_num, Lib.hid (by rw [HS.out, ← HO.out]; simp), by rw [ByteArray.size_append]; show O.size + 5 ≤ _; omega, hbel⟩
      · have e1 : ((s[k].toNat : Int) == 38) = false := beq_eq_false_iff_ne.2 hc
        have hne : s[k] ≠ 38 := fun h => hc (by rw [h]; rfl)
        have HF := fun w => spec_isSafe (s[k].toNat : Int) w
        cases hsf : safeB (s[k].toNat : Int) with
        | true =>
          rw [hsf] at HF
          have HF := Lib.hid HF
          have HS : Hid (urlL (s.data.toList.take (k + 1)) = urlL (s.data.toList.take k) ++ [s[k]]) := Lib.hid (by
            rw [hst]; unfold urlE; rw [if_neg hne, if_pos hsf])
          clear hst hc hne hsf
          go_wp2_with (go_at_call 12; refine (HF.out _).mono ?_; rintro e w' ⟨rfl, rfl⟩)
          go_roundg (s.size - (k + 1))
          case measure => omega
          case rel => exact ⟨k + 1, O ++ s.extract k (k + 1), by omega, rfl, by go_num, Lib.hid (by rw [HS.out, ← HO.out]; simp; rw [drop_cons s k hk]; rfl), by rw [ByteArray.size_append, ByteArray.size_extract]; omega, hbel⟩
        | false =>
          rw [hsf] at HF
          have HF := Lib.hid HF
          have HS : Hid (urlL (s.data.toList.take (k + 1)) = urlL (s.data.toList.take k) ++ [37, hexU (s[k].toNat / 16), hexU (s[k].toNat % 16)]) := Lib.hid (by
            rw [hst]; unfold urlE; rw [if_neg hne, if_neg (by rw [hsf]; simp)])
          clear hst hc hne hsf
          go_wp2_with (go_at_call 12; refine (HF.out _).mono ?_; rintro e w' ⟨rfl, rfl⟩)
          have hlt := s[k].toNat_lt
          go_quiet (fail)
          go_wp2
          go_roundg (s.size - (k + 1))
          case measure => omega
          case rel =>
            refine ⟨k + 1, _, by omega, rfl, by go_num, ?_, ?_, ?_⟩
            · refine Lib.hid ?_
              show (((O ++ ⟨#[37]⟩) ++ digS.extract (s[k].toNat / 16) (s[k].toNat / 16 + 1)) ++ digS.extract (s[k].toNat % 16) (s[k].toNat % 16 + 1)).data.toList = _
              rw [HS.out, ← HO.out, ByteArray.data_append, Array.toList_append, ByteArray.data_append, Array.toList_append, ByteArray.data_append, Array.toList_append, dig_at (s[k].toNat / 16) (by omega), dig_at (s[k].toNat % 16) (by omega)]
              simp
            · show (((O ++ ⟨#[37]⟩) ++ digS.extract (s[k].toNat / 16) (s[k].toNat / 16 + 1)) ++ digS.extract (s[k].toNat % 16) (s[k].toNat % 16 + 1)).size ≤ _
              rw [ByteArray.size_append, ByteArray.size_append, ByteArray.size_append, ByteArray.size_extract, ByteArray.size_extract]
              show O.size + 1 + _ + _ ≤ _
              omega
            · exact bel_drewU hbel nq
    · have HE := Lib.hid (show O = ⟨(urlL s.data.toList).toArray⟩ by
        have h := HO.out
        rw [List.take_of_length_le (by simp; omega)] at h
        apply ByteArray.ext
        rw [← h])
      go_wp2_with (fail)
      go_ret
      exact ⟨ret_str HE.out, hbel⟩
end Go.Proofs.YtpdpkggojlpklaaDoor
