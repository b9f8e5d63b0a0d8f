/- The reference's ReadAuto: at an address in angle brackets, and where there is none. -/
import Derived.Test.YtpdpkggojlpklaaAuto
namespace Go.Proofs.Ytpdpkggojlpklaa
open Go.RowKit
def ctlB (c : Int) : Bool := decide (c < 32) || c == 127
theorem spec_IsControl (c : Int) (w : World) : Calls Try.prog 17 #[.int .u8 c] w fun e w' => e = .returned (.bool (ctlB c)) ∧ w = w' := by
  go_enter Try.func17, Try.ntmps17
  go_wp2
  all_goals (go_ret; refine ⟨ret_bool ?_, rfl⟩; first | rfl | (rw [Bool.eq_iff_iff]; simp [ctlB] at *; done) | (rw [Bool.eq_iff_iff]; simp [ctlB] at *; omega))
theorem refMail_at (u : ByteArray) : refMail (u.data.toList.drop 1) = (atB (fun c => c == 62) u (scan gutB u.data.toList 1) && addrB (u.extract 1 (scan gutB u.data.toList 1))) := by
  unfold refMail addrB gutL
  rw [rgt_scan, lft_piece, Lib.extract_data]
  congr 1
  by_cases h : scan gutB u.data.toList 1 < u.size
  · rw [drop_cons u _ h, atB_of h, Bool.eq_iff_iff]
    simp only [List.head?_cons, beq_iff_eq, Option.some.injEq]
    constructor
    · intro e; rw [e]; rfl
    · intro e; exact UInt8.toNat_inj.1 (by show u[scan gutB u.data.toList 1].toNat = 62; omega)
  · rw [List.drop_eq_nil_of_le (by simp; omega), atB_off h]; rfl
def mailtoS : ByteArray := ⟨#[109, 97, 105, 108, 116, 111, 58]⟩
def ReadMail (u : ByteArray) (w : World) (e : Ending) (w' : World) : Prop :=
  e = .returned (.tuple #[.string (u.extract 1 (scan gutB u.data.toList 1)), .string (mailtoS ++ u.extract 1 (scan gutB u.data.toList 1)), .int .i64 ((scan gutB u.data.toList 1 : Int) + 1)]) ∧ w = w'
def ReadSame (w : World) (e : Ending) (w' : World) : Prop := ∃ (t : ByteArray) (n : Int), e = .returned (.tuple #[.string t, .string t, .int .i64 n]) ∧ w = w'
def readRes (u : ByteArray) (w : World) (e : Ending) (w' : World) : Prop := if refMail (u.data.toList.drop 1) then ReadMail u w e w' else ReadSame w e w'
set_option maxHeartbeats 2000000 in
theorem spec_ReadAuto (u : ByteArray) (w : World) (hs : u.size ≤ 1000) (h0 : 0 < u.size) (hc : (u[0].toNat : Int) = 60) : Calls Try.prog 11 #[.string u] w (readRes u w) := by
  have hr := refMail_at u
  have hlt := le_scan gutB u.data.toList 1
  have hc2 : ((u[0].toNat : Int) != 60) = false := by rw [hc]; rfl
  clear hc
  by_cases h2 : u.size < 2
  · have e : refMail (u.data.toList.drop 1) = false := by
      rw [hr, atB_off (by omega)]; rfl
    have e2 : readRes u w = ReadSame w := by funext x y; unfold readRes; rw [e]; rfl
    rw [e2]
    clear e e2 hr
    go_enter Try.func11, Try.ntmps11
    go_wp2_with (fail)
    go_ret3
    exact ⟨_, _, rfl, rfl⟩
  · have hsz := scan_size gutB u 1 (by omega)
    have HR := Lib.hid hr
    have HS := fun (E : Nat) (w : World) => Lib.hid (spec_scheme (u.extract 1 E) w (by rw [ByteArray.size_extract]; omega))
    have HS := Lib.hid HS
    have HA := fun (E : Nat) (w : World) => Lib.hid (spec_IsAddress (u.extract 1 E) w (by rw [ByteArray.size_extract]; omega))
    have HA := Lib.hid HA
    obtain ⟨Q, hQ⟩ : ∃ Q, Q = readRes u w := ⟨_, rfl⟩
    have HQ := Lib.hid hQ
    rw [← hQ]
    clear hr hQ
    go_enter Try.func11, Try.ntmps11
    go_wp2_with (fail)
    go_loopg [5] (u.size - 1) (fun g j wx => ∃ k : Nat, 1 ≤ k ∧ k + g = u.size ∧ j = .int .i64 k ∧ Hid (scan gutB u.data.toList 1 = scan gutB u.data.toList k) ∧ w = wx)
    case atStart => exact ⟨1, by omega, by omega, rfl, Lib.hid rfl, rfl⟩
    case round =>
      obtain ⟨k, hk1, hkg, rfl, HK, rfl⟩ := hrel
      go_upto_region 4 with (fail)
      go_cut [43] from 15 to 43 (fun v wx => v = .bool (atB gutB u k) ∧ w = wx)
      case first =>
        clear HR HS HA HQ HK
        go_wp2_with (go_at_call 17; refine (spec_IsControl _ _).mono ?_; rintro e w' ⟨rfl, rfl⟩)
        all_goals (go_meet; refine ⟨congrArg Value.bool ?_, rfl⟩; first | (simp [atB, gutB, ctlB, *]; done) | (simp_all [atB, gutB, ctlB]; done) | (rw [Bool.eq_iff_iff]; simp_all [atB, gutB, ctlB]; done) | (rw [Bool.eq_iff_iff]; simp_all [atB, gutB, ctlB]; omega))
      case rest =>
        obtain ⟨rfl, rfl⟩ := hcut
        cases hB : atB gutB u k with
        | true =>
          have hlt := atB_lt hB
          have HY := Lib.hid (HK.out.trans (scan_yes hB))
          clear hB
          go_wp2
          go_roundg (gk - 1)
          case measure => omega
          case rel => exact ⟨k + 1, by omega, by omega, by go_num, HY, rfl⟩
        | false =>
          have hE := HK.out.trans (scan_no hB)
          have hr := HR.out
          rw [hE] at hr
          have HE := Lib.hid hE
          clear hE hB HK HR
          by_cases hk : k < u.size
          · have e1 : ((k : Int) == (u.size : Int)) = false := beq_eq_false_iff_ne.2 (by omega)
            cases h62 : ((u[k].toNat : Int) == 62) with
            | false =>
              have e2 : ((u[k].toNat : Int) != 62) = true := by rw [bne, h62]; rfl
              have HN : Hid (Q = ReadSame w) := Lib.hid (by
                rw [HQ.out]; funext x y; unfold readRes; rw [hr, atB_of hk, h62]; rfl)
              clear hr h62
              go_wp2_with (fail)
              go_ret3
              rw [HN.out]
              exact ⟨_, _, rfl, rfl⟩
            | true =>
              have e2 : ((u[k].toNat : Int) != 62) = false := by rw [bne, h62]; rfl
              rw [atB_of hk, h62, Bool.true_and] at hr
              have HSk := HS.out k w
              have HAk := HA.out k w
              have Hr := Lib.hid hr
              clear h62 hr HS HA
              cases hA : addrB (u.extract 1 k) with
              | true =>
                have HX : Hid (mailL (u.extract 1 k).data.toList ≠ none) := Lib.hid (fun h => by unfold addrB at hA; rw [h] at hA; cases hA)
                have HN : Hid (Q = ReadMail u w) := Lib.hid (by
                  rw [HQ.out]; funext x y; unfold readRes; rw [Hr.out, hA]; rfl)
                rw [hA] at HAk
                clear hA
                go_wp2_with (first
                  | (go_at_call 18; refine HSk.out.mono ?_; unfold SchemeRes; rintro e w' ⟨b, rfl, hb, rfl⟩; have HB := Lib.hid hb; clear hb)
                  | (go_at_call 19; refine HAk.out.mono ?_; rintro e w' ⟨rfl, rfl⟩))
                · rename_i hb
                  exact absurd (HB.out (by assumption)) HX.out
                · go_ret3
                  rw [HN.out]
                  unfold ReadMail
                  rw [HE.out]
                  exact ⟨rfl, rfl⟩
              | false =>
                have HN : Hid (Q = ReadSame w) := Lib.hid (by
                  rw [HQ.out]; funext x y; unfold readRes; rw [Hr.out, hA]; rfl)
                rw [hA] at HAk
                clear hA
                go_wp2_with (first
                  | (go_at_call 18; refine HSk.out.mono ?_; unfold SchemeRes; rintro e w' ⟨b, rfl, hb, rfl⟩; clear hb)
                  | (go_at_call 19; refine HAk.out.mono ?_; rintro e w' ⟨rfl, rfl⟩))
                all_goals
                  go_ret3
                  rw [HN.out]
                  exact ⟨_, _, rfl, rfl⟩
          · have e1 : ((k : Int) == (u.size : Int)) = true := beq_iff_eq.2 (by omega)
            have HN : Hid (Q = ReadSame w) := Lib.hid (by
              rw [HQ.out]; funext x y; unfold readRes; rw [hr, atB_off hk]; rfl)
            clear hr
            go_wp2_with (fail)
            go_ret3
            rw [HN.out]
            exact ⟨_, _, rfl, rfl⟩
end Go.Proofs.Ytpdpkggojlpklaa
