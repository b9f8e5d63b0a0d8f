/- The reference's character references and unescaping, where no number of a character begins. -/
import Derived.Test.YtigeaoijcjidbaaDoorSpecTexts
import Derived.Test.YtigeaoijcjidbaaDoorConds
import Derived.WalkSpells
import Derived.WalkLawsBesides
namespace Go.Proofs.YtigeaoijcjidbaaDoor
open Go.RowKit
/-- what the reference hands back for what begins at a place -/
def entRes (s : ByteArray) (k : Nat) : Value :=
  if atB (fun c => c == 38) s k then
    match entS (s.data.toList.drop (k + 1)) with
    | some (r, n) => .tuple #[.string ⟨r.toArray⟩, .int .i64 ((n : Int) + 1)]
    | none => .tuple #[.string ⟨#[]⟩, .int .i64 0]
  else .tuple #[.string ⟨#[]⟩, .int .i64 0]
set_option maxHeartbeats 4000000 in
set_option maxRecDepth 100000 in
theorem spec_Entity (s : ByteArray) (k : Nat) (w : World) (hs : s.size ≤ 1000) (hk : k < s.size) (hn : NoNum s) : Calls Tryd.prog 29 #[.string s, .int .i64 k] w fun e w' => e = .returned (entRes s k) ∧ w = w' := by
  by_cases ha : (s[k].toNat : Int) = 38
  · have hab : ((s[k].toNat : Int) != 38) = false := by simp [ha]
    by_cases hl : k + 1 < s.size
    · have hnn : ((s[k + 1].toNat : Int) == 35) = false := beq_eq_false_iff_ne.2 (fun h => hn k hl ha h)
      have HR : Hid (entRes s k = match entS (s.data.toList.drop (k + 1)) with | some (r, n) => .tuple #[.string ⟨r.toArray⟩, .int .i64 ((n : Int) + 1)] | none => .tuple #[.string ⟨#[]⟩, .int .i64 0]) := Lib.hid (by
        unfold entRes; rw [atB_of hk, ha]; rfl)
      have HA := Lib.hid (entS_at s k)
      have hle := scan_size alnB s (k + 1) (by omega)
      have hge := le_scan alnB s.data.toList (k + 1)
      have HN := Lib.hid (fun (n : ByteArray) (w : World) => spec_named n w)
      generalize entRes s k = R at *
      generalize entS (s.data.toList.drop (k + 1)) = O at *
      clear ha hn
      go_enter Tryd.func29, Tryd.ntmps29
      go_wp2_with (fail)
      go_loopg [6] (s.size - (k + 1)) (fun g j wx => ∃ m : Nat, k + 1 ≤ m ∧ m + g = s.size ∧ j = .int .i64 m ∧ Hid (scan alnB s.data.toList m = scan alnB s.data.toList (k + 1)) ∧ w = wx)
      case atStart => exact ⟨k + 1, Nat.le_refl _, by omega, by go_num, Lib.hid rfl, rfl⟩
      case round =>
        obtain ⟨m, hm, hmg, rfl, HM, rfl⟩ := hrel
        go_upto_region 28 with (fail)
        go_cut [158] from 143 to 158 (fun v wx => v = .bool (atB alnB s m) ∧ w = wx)
        case first =>
          clear HR HA HN HM
          go_wp2_with (first
            | (go_at_call 18; refine (spec_IsLetter _ _).mono ?_; rintro e w' ⟨rfl, rfl⟩)
            | (go_at_call 19; refine (spec_IsDigit _ _).mono ?_; rintro e w' ⟨rfl, rfl⟩))
          all_goals (go_meet; refine ⟨congrArg Value.bool ?_, rfl⟩; go_light; first | (simp [atB, alnB, *]; done) | (simp_all [atB, alnB]; done))
        case rest =>
          obtain ⟨rfl, rfl⟩ := hcut
          cases hB : atB alnB s m with
          | true =>
            have hlt := atB_lt hB
            have HY := Lib.hid (scan_yes hB)
            clear hB
            go_wp2
            go_roundg (s.size - (m + 1))
            case measure => omega
            case rel => exact ⟨m + 1, by omega, by omega, by go_num, Lib.hid (HY.out.symm.trans HM.out), rfl⟩
          | false =>
            have hE := HM.out.symm.trans (scan_no hB)
            clear hB
            rw [hE] at HA hle hge
            clear HM
            have HN1 := Lib.hid (fun (w : World) => HN.out (s.extract (k + 1) m) w)
            have HZ := Lib.hid (empty_iff (namedOf (s.extract (k + 1) m).data.toList))
            clear hE HN
            generalize namedOf (s.extract (k + 1) m).data.toList = nm at *
            by_cases h1 : k + 1 < m
            · have hne : ((m : Int) == (k : Int) + 1) = false := beq_eq_false_iff_ne.2 (by omega)
              cases h2 : atB (fun c => c == 59) s m with
              | true =>
                have hms := atB_lt h2
                have hml : ((m : Int) == (s.size : Int)) = false := beq_eq_false_iff_ne.2 (by omega)
                have h59 : ((s[m].toNat : Int) != 59) = false := by
                  have := atB_of (p := fun c => c == 59) hms
                  rw [h2] at this
                  simpa using this.symm
                by_cases hz : nm = []
                · have HX : Hid (R = .tuple #[.string ⟨#[]⟩, .int .i64 0]) := Lib.hid (by rw [HR.out, HA.out, if_neg (fun h => h.2.2 hz)])
                  have hZ := HZ.out.2 hz
                  clear hz HZ HR HA
                  generalize (⟨nm.toArray⟩ : ByteArray) = V at *
                  go_wp2_with (go_at_call 20; refine (HN1.out _).mono ?_; rintro e w' ⟨rfl, rfl⟩)
                  go_ret2
                  exact ⟨congrArg Ending.returned HX.out.symm, rfl⟩
                · obtain ⟨V, hV⟩ : ∃ V : ByteArray, V = ⟨nm.toArray⟩ := ⟨_, rfl⟩
                  have HX : Hid (R = .tuple #[.string V, .int .i64 ((m : Int) + 1 - k)]) := Lib.hid (by
                    rw [HR.out, HA.out, if_pos ⟨h1, h2, hz⟩, hV]; simp; omega)
                  have hZ : V.toList.isEmpty = false := by
                    cases h : V.toList.isEmpty with
                    | false => rfl
                    | true => rw [hV] at h; exact absurd (HZ.out.1 h) hz
                  rw [← hV] at HN1
                  clear hz HZ HR HA hV
                  go_wp2_with (go_at_call 20; refine (HN1.out _).mono ?_; rintro e w' ⟨rfl, rfl⟩)
                  go_ret2
                  exact ⟨congrArg Ending.returned HX.out.symm, rfl⟩
              | false =>
                have HX : Hid (R = .tuple #[.string ⟨#[]⟩, .int .i64 0]) := Lib.hid (by rw [HR.out, HA.out, if_neg (fun h => by rw [h2] at h; cases h.2.1)])
                clear HZ HR HA
                by_cases hms : m < s.size
                · have hml : ((m : Int) == (s.size : Int)) = false := beq_eq_false_iff_ne.2 (by omega)
                  have h59 : ((s[m].toNat : Int) != 59) = true := by
                    have := atB_of (p := fun c => c == 59) hms
                    rw [h2] at this
                    simpa using this.symm
                  go_wp2_with (fail)
                  go_ret2
                  exact ⟨congrArg Ending.returned HX.out.symm, rfl⟩
                · have hml : ((m : Int) == (s.size : Int)) = true := beq_iff_eq.2 (by omega)
                  go_wp2_with (fail)
                  go_ret2
                  exact ⟨congrArg Ending.returned HX.out.symm, rfl⟩
            · have hne : ((m : Int) == (k : Int) + 1) = true := beq_iff_eq.2 (by omega)
              have HX : Hid (R = .tuple #[.string ⟨#[]⟩, .int .i64 0]) := Lib.hid (by rw [HR.out, HA.out, if_neg (fun h => h1 h.1)])
              clear HZ HR HA
              go_wp2_with (fail)
              go_ret2
              exact ⟨congrArg Ending.returned HX.out.symm, rfl⟩
    · have HR : Hid (entRes s k = .tuple #[.string ⟨#[]⟩, .int .i64 0]) := Lib.hid (by
        have h1 : entS (s.data.toList.drop (k + 1)) = none := by
          rw [List.drop_eq_nil_of_le (by simp; omega)]; rfl
        unfold entRes; rw [h1]; split <;> rfl)
      generalize entRes s k = R at *
      clear ha hn
      go_enter Tryd.func29, Tryd.ntmps29
      go_wp2_with (fail)
      go_ret2
      exact ⟨congrArg Ending.returned HR.out.symm, rfl⟩
  · have hab : ((s[k].toNat : Int) != 38) = true := by simpa using ha
    have HR : Hid (entRes s k = .tuple #[.string ⟨#[]⟩, .int .i64 0]) := Lib.hid (by
      unfold entRes; rw [atB_of hk, beq_eq_false_iff_ne.2 ha]; rfl)
    generalize entRes s k = R at *
    clear ha hn
    go_enter Tryd.func29, Tryd.ntmps29
    go_wp2_with (fail)
    go_ret2
    exact ⟨congrArg Ending.returned HR.out.symm, rfl⟩
end Go.Proofs.YtigeaoijcjidbaaDoor
