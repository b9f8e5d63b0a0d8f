/- Titles: the reference's reading and the package's. -/
import Derived.Test.YtigeaoijcjidbaaDoorUnescSpec
namespace Go.Proofs.YtigeaoijcjidbaaDoor
open Go.RowKit
theorem spec_escapedAt (s : ByteArray) (k : Nat) (w : World) (hs : s.size ≤ 1000) (hk : k < s.size) :
    Calls Tryd.prog 23 #[.string s, .int .i64 k] w fun e w' => e = .returned (.bool (escAt s k)) ∧ w = w' := by
  go_enter Tryd.func23, Tryd.ntmps23
  go_wp2_with (go_at_call 15; refine (spec_IsPunct _ _).mono ?_; rintro e w' ⟨rfl, rfl⟩)
  all_goals (go_ret; refine ⟨ret_bool ?_, rfl⟩; go_light; first | exact (escAt_is hk ‹_› (by omega)).symm | exact (escAt_end (by omega)).symm | exact (escAt_not hk ‹_›).symm)
theorem NoNum.piece {s : ByteArray} (h : NoNum s) (a b : Nat) : NoNum (s.extract a b) := by
  intro k hk h1 h2
  rw [ByteArray.size_extract] at hk
  rw [ByteArray.getElem_extract] at h1 h2
  exact h (a + k) (by omega) h1 h2
/-- the marks of a title: what begins it, what ends it, whether it stands in parentheses -/
def Marks (q want : Int) (paren : Bool) : Prop := (q = 34 ∧ want = 34 ∧ paren = false) ∨ (q = 39 ∧ want = 39 ∧ paren = false) ∨ (q = 40 ∧ want = 41 ∧ paren = true)
/-- what the reference hands back for a title -/
def titleS (t : ByteArray) (o : Option Nat) : Value :=
  match o with
  | some e => .tuple #[.string ⟨(rp entS 0 (t.extract 1 e).data.toList).toArray⟩, .int .i64 ((e : Int) + 1)]
  | none => .tuple #[.string ⟨#[]⟩, .int .i64 (-1)]
set_option maxHeartbeats 4000000 in
set_option maxRecDepth 100000 in
theorem spec_ReadTitle (q want : Int) (paren : Bool) (hm : Marks q want paren) (t : ByteArray) (w : World) (hs : t.size ≤ 1000) (h0 : 0 < t.size) (hq : (t[0].toNat : Int) = q) (ha : allB linB t.data.toList = true) (hg : NoGap t) (hn : NoNum t) :
    Calls Tryd.prog 13 #[.string t] w fun e w' => e = .returned (titleS t (tAt want paren t 1)) ∧ w = w' := by
  obtain ⟨O, hO⟩ : ∃ O, O = tAt want paren t 1 := ⟨_, rfl⟩
  have HO := Lib.hid hO
  rw [← hO]
  clear hO
  have HA := Lib.hid ha; have HG := Lib.hid hg; have HN := Lib.hid hn
  clear ha hg hn
  have HU := Lib.hid (fun (k : Nat) (w : World) => spec_Unescape (t.extract 1 k) w (by rw [ByteArray.size_extract]; omega) (HN.out.piece 1 k))
  have HE := Lib.hid (fun (k : Nat) (w : World) (hk : k < t.size) => spec_escapedAt t k w hs hk)
  have hz : ((t.size : Int) == 0) = false := beq_eq_false_iff_ne.2 (by omega)
  have hn34 : ((t[0].toNat : Int) != 34) = (q != 34) := by rw [hq]
  have hn39 : ((t[0].toNat : Int) != 39) = (q != 39) := by rw [hq]
  have hn40 : ((t[0].toNat : Int) != 40) = (q != 40) := by rw [hq]
  have he40 : ((t[0].toNat : Int) == 40) = (q == 40) := by rw [hq]
  rcases hm with ⟨rfl, rfl, rfl⟩ | ⟨rfl, rfl, rfl⟩ | ⟨rfl, rfl, rfl⟩
  · go_enter Tryd.func13, Tryd.ntmps13
    go_wp2_with (fail)
    go_loopg [5, 6] (t.size - 1) (fun g v j wx => ∃ (k : Nat) (b : Bool), 1 ≤ k ∧ k + g = t.size ∧ v = .bool b ∧ j = .int .i64 k ∧ Hid (b = true → bAt t k = true) ∧ Hid (tAt 34 false t k = O) ∧ w = wx)
    case atStart => exact ⟨1, false, by omega, by omega, rfl, rfl, Lib.hid (fun h => by cases h), Lib.hid HO.out.symm, rfl⟩
    case round =>
      obtain ⟨k, b, hk1, hkg, rfl, rfl, HB, HT, rfl⟩ := hrel
      by_cases hk : k < t.size
      · have HEk := Lib.hid (fun w => HE.out k w hk)
        cases hE : escAt t k with
        | true =>
          rw [hE] at HEk
          have hlt := escAt_lt hE
          have HT2 : Hid (tAt 34 false t (k + 2) = O) := Lib.hid ((tAt_esc hE).symm.trans HT.out)
          clear hE
          go_wp2_with (go_at_call 23; refine (HEk.out _).mono ?_; rintro e w' ⟨rfl, rfl⟩)
          go_roundg (t.size - (k + 2))
          case measure => omega
          case rel => exact ⟨k + 2, false, by omega, by omega, rfl, by go_num, Lib.hid (fun h => by cases h), HT2, rfl⟩
        | false =>
          rw [hE] at HEk
          by_cases hw : (t[k].toNat : Int) = 34
          · have hwb : ((t[k].toNat : Int) == 34) = true := beq_iff_eq.2 hw
            have HX : Hid (titleS t O = .tuple #[.string ⟨(rp entS 0 (t.extract 1 k).data.toList).toArray⟩, .int .i64 ((k : Int) + 1)]) := Lib.hid (by rw [← HT.out, tAt_hit hk hE hw]; rfl)
            have HUk := Lib.hid (fun w => HU.out k w)
            clear hE hw
            generalize (⟨(rp entS 0 (t.extract 1 k).data.toList).toArray⟩ : ByteArray) = R at *
            go_wp2_with (first
              | (go_at_call 23; refine (HEk.out _).mono ?_; rintro e w' ⟨rfl, rfl⟩)
              | (go_at_call 24; refine (HUk.out _).mono ?_; rintro e w' ⟨rfl, rfl⟩))
            go_ret2
            exact ⟨congrArg Ending.returned HX.out.symm, rfl⟩
          · have hwb : ((t[k].toNat : Int) == 34) = false := beq_eq_false_iff_ne.2 hw
            have HT2 : Hid (tAt 34 false t (k + 1) = O) := Lib.hid ((tAt_next hk hE hw (fun h => by cases h.1)).symm.trans HT.out)
            have HBS : Hid (bAt t (k + 1) = (((t[k].toNat : Int) == 10) || (bAt t k && ((t[k].toNat : Int) == 32)))) := Lib.hid (by rw [bAt, atB_of hk, atB_of hk])
            have HLk := Lib.hid (allB_get linB t HA.out k hk)
            have HGk := Lib.hid (fun h => HG.out k hk h)
            clear hE hw
            by_cases h10 : (t[k].toNat : Int) = 10
            · have hb : b = false := by
                cases b with
                | false => rfl
                | true => have h1 := HB.out rfl; rw [HGk.out h10] at h1; cases h1
              subst hb
              have h10b : ((t[k].toNat : Int) == 10) = true := beq_iff_eq.2 h10
              have HB2 : Hid (bAt t (k + 1) = true) := Lib.hid (by rw [HBS.out, h10b]; rfl)
              clear h10
              go_wp2_with (go_at_call 23; refine (HEk.out _).mono ?_; rintro e w' ⟨rfl, rfl⟩)
              go_roundg (t.size - (k + 1))
              case measure => omega
              case rel => exact ⟨k + 1, true, by omega, by omega, rfl, by go_num, Lib.hid (fun _ => HB2.out), HT2, rfl⟩
            · have h10b : ((t[k].toNat : Int) == 10) = false := beq_eq_false_iff_ne.2 h10
              by_cases h32 : (t[k].toNat : Int) = 32
              · have h32b : ((t[k].toNat : Int) != 32) = false := by simp [h32]
                have HB2 : Hid (b = true → bAt t (k + 1) = true) := Lib.hid (fun h => by rw [HBS.out, HB.out h, h32, Bool.true_and]; simp)
                clear h10 h32
                go_wp2_with (go_at_call 23; refine (HEk.out _).mono ?_; rintro e w' ⟨rfl, rfl⟩)
                go_roundg (t.size - (k + 1))
                case measure => omega
                case rel => exact ⟨k + 1, b, by omega, by omega, rfl, by go_num, HB2, HT2, rfl⟩
              · have h32b : ((t[k].toNat : Int) != 32) = true := by simpa using h32
                have h9b : ((t[k].toNat : Int) != 9) = true := by
                  have := HLk.out
                  simp only [linB, Bool.or_eq_true, Bool.and_eq_true, beq_iff_eq, decide_eq_true_eq] at this
                  simp; omega
                clear h10 h32
                go_wp2_with (go_at_call 23; refine (HEk.out _).mono ?_; rintro e w' ⟨rfl, rfl⟩)
                go_roundg (t.size - (k + 1))
                case measure => omega
                case rel => exact ⟨k + 1, false, by omega, by omega, rfl, by go_num, Lib.hid (fun h => by cases h), HT2, rfl⟩
      · have HX : Hid (titleS t O = .tuple #[.string ⟨#[]⟩, .int .i64 (-1)]) := Lib.hid (by rw [← HT.out, tAt_end (by omega)]; rfl)
        go_wp2_with (fail)
        go_ret2
        exact ⟨congrArg Ending.returned HX.out.symm, rfl⟩
  · go_enter Tryd.func13, Tryd.ntmps13
    go_wp2_with (fail)
    go_loopg [5, 6] (t.size - 1) (fun g v j wx => ∃ (k : Nat) (b : Bool), 1 ≤ k ∧ k + g = t.size ∧ v = .bool b ∧ j = .int .i64 k ∧ Hid (b = true → bAt t k = true) ∧ Hid (tAt 39 false t k = O) ∧ w = wx)
    case atStart => exact ⟨1, false, by omega, by omega, rfl, rfl, Lib.hid (fun h => by cases h), Lib.hid HO.out.symm, rfl⟩
    case round =>
      obtain ⟨k, b, hk1, hkg, rfl, rfl, HB, HT, rfl⟩ := hrel
      by_cases hk : k < t.size
      · have HEk := Lib.hid (fun w => HE.out k w hk)
        cases hE : escAt t k with
        | true =>
          rw [hE] at HEk
          have hlt := escAt_lt hE
          have HT2 : Hid (tAt 39 false t (k + 2) = O) := Lib.hid ((tAt_esc hE).symm.trans HT.out)
          clear hE
          go_wp2_with (go_at_call 23; refine (HEk.out _).mono ?_; rintro e w' ⟨rfl, rfl⟩)
          go_roundg (t.size - (k + 2))
          case measure => omega
          case rel => exact ⟨k + 2, false, by omega, by omega, rfl, by go_num, Lib.hid (fun h => by cases h), HT2, rfl⟩
        | false =>
          rw [hE] at HEk
          by_cases hw : (t[k].toNat : Int) = 39
          · have hwb : ((t[k].toNat : Int) == 39) = true := beq_iff_eq.2 hw
            have HX : Hid (titleS t O = .tuple #[.string ⟨(rp entS 0 (t.extract 1 k).data.toList).toArray⟩, .int .i64 ((k : Int) + 1)]) := Lib.hid (by rw [← HT.out, tAt_hit hk hE hw]; rfl)
            have HUk := Lib.hid (fun w => HU.out k w)
            clear hE hw
            generalize (⟨(rp entS 0 (t.extract 1 k).data.toList).toArray⟩ : ByteArray) = R at *
            go_wp2_with (first
              | (go_at_call 23; refine (HEk.out _).mono ?_; rintro e w' ⟨rfl, rfl⟩)
              | (go_at_call 24; refine (HUk.out _).mono ?_; rintro e w' ⟨rfl, rfl⟩))
            go_ret2
            exact ⟨congrArg Ending.returned HX.out.symm, rfl⟩
          · have hwb : ((t[k].toNat : Int) == 39) = false := beq_eq_false_iff_ne.2 hw
            have HT2 : Hid (tAt 39 false t (k + 1) = O) := Lib.hid ((tAt_next hk hE hw (fun h => by cases h.1)).symm.trans HT.out)
            have HBS : Hid (bAt t (k + 1) = (((t[k].toNat : Int) == 10) || (bAt t k && ((t[k].toNat : Int) == 32)))) := Lib.hid (by rw [bAt, atB_of hk, atB_of hk])
            have HLk := Lib.hid (allB_get linB t HA.out k hk)
            have HGk := Lib.hid (fun h => HG.out k hk h)
            clear hE hw
            by_cases h10 : (t[k].toNat : Int) = 10
            · have hb : b = false := by
                cases b with
                | false => rfl
                | true => have h1 := HB.out rfl; rw [HGk.out h10] at h1; cases h1
              subst hb
              have h10b : ((t[k].toNat : Int) == 10) = true := beq_iff_eq.2 h10
              have HB2 : Hid (bAt t (k + 1) = true) := Lib.hid (by rw [HBS.out, h10b]; rfl)
              clear h10
              go_wp2_with (go_at_call 23; refine (HEk.out _).mono ?_; rintro e w' ⟨rfl, rfl⟩)
              go_roundg (t.size - (k + 1))
              case measure => omega
              case rel => exact ⟨k + 1, true, by omega, by omega, rfl, by go_num, Lib.hid (fun _ => HB2.out), HT2, rfl⟩
            · have h10b : ((t[k].toNat : Int) == 10) = false := beq_eq_false_iff_ne.2 h10
              by_cases h32 : (t[k].toNat : Int) = 32
              · have h32b : ((t[k].toNat : Int) != 32) = false := by simp [h32]
                have HB2 : Hid (b = true → bAt t (k + 1) = true) := Lib.hid (fun h => by rw [HBS.out, HB.out h, h32, Bool.true_and]; simp)
                clear h10 h32
                go_wp2_with (go_at_call 23; refine (HEk.out _).mono ?_; rintro e w' ⟨rfl, rfl⟩)
                go_roundg (t.size - (k + 1))
                case measure => omega
                case rel => exact ⟨k + 1, b, by omega, by omega, rfl, by go_num, HB2, HT2, rfl⟩
              · have h32b : ((t[k].toNat : Int) != 32) = true := by simpa using h32
                have h9b : ((t[k].toNat : Int) != 9) = true := by
                  have := HLk.out
                  simp only [linB, Bool.or_eq_true, Bool.and_eq_true, beq_iff_eq, decide_eq_true_eq] at this
                  simp; omega
                clear h10 h32
                go_wp2_with (go_at_call 23; refine (HEk.out _).mono ?_; rintro e w' ⟨rfl, rfl⟩)
                go_roundg (t.size - (k + 1))
                case measure => omega
                case rel => exact ⟨k + 1, false, by omega, by omega, rfl, by go_num, Lib.hid (fun h => by cases h), HT2, rfl⟩
      · have HX : Hid (titleS t O = .tuple #[.string ⟨#[]⟩, .int .i64 (-1)]) := Lib.hid (by rw [← HT.out, tAt_end (by omega)]; rfl)
        go_wp2_with (fail)
        go_ret2
        exact ⟨congrArg Ending.returned HX.out.symm, rfl⟩
  · go_enter Tryd.func13, Tryd.ntmps13
    go_wp2_with (fail)
    go_loopg [5, 6] (t.size - 1) (fun g v j wx => ∃ (k : Nat) (b : Bool), 1 ≤ k ∧ k + g = t.size ∧ v = .bool b ∧ j = .int .i64 k ∧ Hid (b = true → bAt t k = true) ∧ Hid (tAt 41 true t k = O) ∧ w = wx)
    case atStart => exact ⟨1, false, by omega, by omega, rfl, rfl, Lib.hid (fun h => by cases h), Lib.hid HO.out.symm, rfl⟩
    case round =>
      obtain ⟨k, b, hk1, hkg, rfl, rfl, HB, HT, rfl⟩ := hrel
      by_cases hk : k < t.size
      · have HEk := Lib.hid (fun w => HE.out k w hk)
        cases hE : escAt t k with
        | true =>
          rw [hE] at HEk
          have hlt := escAt_lt hE
          have HT2 : Hid (tAt 41 true t (k + 2) = O) := Lib.hid ((tAt_esc hE).symm.trans HT.out)
          clear hE
          go_wp2_with (go_at_call 23; refine (HEk.out _).mono ?_; rintro e w' ⟨rfl, rfl⟩)
          go_roundg (t.size - (k + 2))
          case measure => omega
          case rel => exact ⟨k + 2, false, by omega, by omega, rfl, by go_num, Lib.hid (fun h => by cases h), HT2, rfl⟩
        | false =>
          rw [hE] at HEk
          by_cases hw : (t[k].toNat : Int) = 41
          · have hwb : ((t[k].toNat : Int) == 41) = true := beq_iff_eq.2 hw
            have HX : Hid (titleS t O = .tuple #[.string ⟨(rp entS 0 (t.extract 1 k).data.toList).toArray⟩, .int .i64 ((k : Int) + 1)]) := Lib.hid (by rw [← HT.out, tAt_hit hk hE hw]; rfl)
            have HUk := Lib.hid (fun w => HU.out k w)
            clear hE hw
            generalize (⟨(rp entS 0 (t.extract 1 k).data.toList).toArray⟩ : ByteArray) = R at *
            go_wp2_with (first
              | (go_at_call 23; refine (HEk.out _).mono ?_; rintro e w' ⟨rfl, rfl⟩)
              | (go_at_call 24; refine (HUk.out _).mono ?_; rintro e w' ⟨rfl, rfl⟩))
            go_ret2
            exact ⟨congrArg Ending.returned HX.out.symm, rfl⟩
          · have hwb : ((t[k].toNat : Int) == 41) = false := beq_eq_false_iff_ne.2 hw
            by_cases hop : (t[k].toNat : Int) = 40
            · have hob : ((t[k].toNat : Int) == 40) = true := beq_iff_eq.2 hop
              have HX : Hid (titleS t O = .tuple #[.string ⟨#[]⟩, .int .i64 (-1)]) := Lib.hid (by rw [← HT.out, tAt_open hk hE hw rfl hop]; rfl)
              clear hE hw hop
              go_wp2_with (go_at_call 23; refine (HEk.out _).mono ?_; rintro e w' ⟨rfl, rfl⟩)
              go_ret2
              exact ⟨congrArg Ending.returned HX.out.symm, rfl⟩
            have hob : ((t[k].toNat : Int) == 40) = false := beq_eq_false_iff_ne.2 hop
            have HT2 : Hid (tAt 41 true t (k + 1) = O) := Lib.hid ((tAt_next hk hE hw (fun h => hop h.2)).symm.trans HT.out)
            have HBS : Hid (bAt t (k + 1) = (((t[k].toNat : Int) == 10) || (bAt t k && ((t[k].toNat : Int) == 32)))) := Lib.hid (by rw [bAt, atB_of hk, atB_of hk])
            have HLk := Lib.hid (allB_get linB t HA.out k hk)
            have HGk := Lib.hid (fun h => HG.out k hk h)
            clear hE hw
            by_cases h10 : (t[k].toNat : Int) = 10
            · have hb : b = false := by
                cases b with
                | false => rfl
                | true => have h1 := HB.out rfl; rw [HGk.out h10] at h1; cases h1
              subst hb
              have h10b : ((t[k].toNat : Int) == 10) = true := beq_iff_eq.2 h10
              have HB2 : Hid (bAt t (k + 1) = true) := Lib.hid (by rw [HBS.out, h10b]; rfl)
              clear h10
              go_wp2_with (go_at_call 23; refine (HEk.out _).mono ?_; rintro e w' ⟨rfl, rfl⟩)
              go_roundg (t.size - (k + 1))
              case measure => omega
              case rel => exact ⟨k + 1, true, by omega, by omega, rfl, by go_num, Lib.hid (fun _ => HB2.out), HT2, rfl⟩
            · have h10b : ((t[k].toNat : Int) == 10) = false := beq_eq_false_iff_ne.2 h10
              by_cases h32 : (t[k].toNat : Int) = 32
              · have h32b : ((t[k].toNat : Int) != 32) = false := by simp [h32]
                have HB2 : Hid (b = true → bAt t (k + 1) = true) := Lib.hid (fun h => by rw [HBS.out, HB.out h, h32, Bool.true_and]; simp)
                clear h10 h32
                go_wp2_with (go_at_call 23; refine (HEk.out _).mono ?_; rintro e w' ⟨rfl, rfl⟩)
                go_roundg (t.size - (k + 1))
                case measure => omega
                case rel => exact ⟨k + 1, b, by omega, by omega, rfl, by go_num, HB2, HT2, rfl⟩
              · have h32b : ((t[k].toNat : Int) != 32) = true := by simpa using h32
                have h9b : ((t[k].toNat : Int) != 9) = true := by
                  have := HLk.out
                  simp only [linB, Bool.or_eq_true, Bool.and_eq_true, beq_iff_eq, decide_eq_true_eq] at this
                  simp; omega
                clear h10 h32
                go_wp2_with (go_at_call 23; refine (HEk.out _).mono ?_; rintro e w' ⟨rfl, rfl⟩)
                go_roundg (t.size - (k + 1))
                case measure => omega
                case rel => exact ⟨k + 1, false, by omega, by omega, rfl, by go_num, Lib.hid (fun h => by cases h), HT2, rfl⟩
      · have HX : Hid (titleS t O = .tuple #[.string ⟨#[]⟩, .int .i64 (-1)]) := Lib.hid (by rw [← HT.out, tAt_end (by omega)]; rfl)
        go_wp2_with (fail)
        go_ret2
        exact ⟨congrArg Ending.returned HX.out.symm, rfl⟩
theorem results_four {fn : Func} {t u v x : Tmp} (h : fn.results = #[.tmp t, .tmp u, .tmp v, .tmp x]) (tmps : Array Value) (P : Program) (w : World) :
    (results fn tmps).run P w = .ok (.tuple #[tmps.getD t undef, tmps.getD u undef, tmps.getD v undef, tmps.getD x undef]) w := by simp [results, h]
/-- what the package hands back for a title -/
def titleP (s : ByteArray) (i : Nat) (want : Int) (o : Option Nat) : Value :=
  match o with
  | some e => .tuple #[.string ⟨(rp entP 0 (s.extract (i + 1) e).data.toList).toArray⟩, .int .u8 want, .int .i64 ((e : Int) + 1), .bool true]
  | none => .tuple #[.string ⟨#[]⟩, .int .u8 0, .int .i64 0, .bool false]
set_option maxHeartbeats 4000000 in
set_option maxRecDepth 100000 in
theorem md_parseLinkTitle (q want : Int) (paren : Bool) (hm : Marks q want paren) (s : ByteArray) (i : Nat) (w : World) (hs : s.size ≤ 1000) (hi : i < s.size) (hq : (s[i].toNat : Int) = q) (ht : TableAt w) (h0 : 0 < w.heap.size) :
    Calls Tryd.prog 28 #[.string s, .int .i64 i] w fun e w' => e = .returned (titleP s i want (tAt want paren s (i + 1))) ∧ Below w.heap.size w w' := by
  obtain ⟨O, hO⟩ : ∃ O, O = tAt want paren s (i + 1) := ⟨_, rfl⟩
  have HO := Lib.hid hO
  rw [← hO]
  clear hO
  have HU := Lib.hid (fun (k : Nat) => md_Replace (s.extract (i + 1) k) w (by rw [ByteArray.size_extract]; omega) ht h0)
  clear ht
  rcases hm with ⟨rfl, rfl, rfl⟩ | ⟨rfl, rfl, rfl⟩ | ⟨rfl, rfl, rfl⟩
  · go_enter Tryd.func28, Tryd.ntmps28
    go_wp2_with (fail)
    go_loopg [9] (s.size - (i + 1)) (fun g j wx => ∃ k : Nat, i + 1 ≤ k ∧ k + g = s.size ∧ j = .int .i64 k ∧ Hid (tAt 34 false s k = O) ∧ w = wx)
    case atStart => exact ⟨i + 1, by omega, by omega, by go_num, Lib.hid HO.out.symm, rfl⟩
    case round =>
      obtain ⟨k, hk1, hkg, rfl, HT, rfl⟩ := hrel
      by_cases hk : k < s.size
      · by_cases hw : (s[k].toNat : Int) = 34
        · have hwb : ((s[k].toNat : Int) == 34) = true := beq_iff_eq.2 hw
          have hE : escAt s k = false := escAt_not hk (by rw [hw]; decide)
          have HX : Hid (titleP s i 34 O = .tuple #[.string ⟨(rp entP 0 (s.extract (i + 1) k).data.toList).toArray⟩, .int .u8 34, .int .i64 ((k : Int) + 1), .bool true]) := Lib.hid (by rw [← HT.out, tAt_hit hk hE hw]; rfl)
          have HUk := Lib.hid (HU.out k)
          clear hE hw
          generalize (⟨(rp entP 0 (s.extract (i + 1) k).data.toList).toArray⟩ : ByteArray) = R at *
          go_wp2_with (go_at_call 31; refine HUk.out.mono ?_; rintro e w' ⟨rfl, hbel⟩)
          exact bodyPost_ret (results_four (t := 4) (u := 5) (v := 6) (x := 7) rfl _ _ _) rfl ⟨congrArg Ending.returned HX.out.symm, hbel⟩
        · have hwb : ((s[k].toNat : Int) == 34) = false := beq_eq_false_iff_ne.2 hw
          by_cases h92 : (s[k].toNat : Int) = 92
          · have hob : ((s[k].toNat : Int) == 40) = false := by rw [h92]; decide
            have hbb : ((s[k].toNat : Int) == 92) = true := beq_iff_eq.2 h92
            by_cases hl : k + 1 < s.size
            · have HT2 : Hid (tAt 34 false s (k + 2) = O) := Lib.hid ((tAt_skip hl (.inl rfl) h92).symm.trans HT.out)
              clear hw h92
              go_wp2_with (fail)
              go_roundg (s.size - (k + 2))
              case measure => omega
              case rel => exact ⟨k + 2, by omega, by omega, by go_num, HT2, rfl⟩
            · have HT2 : Hid (tAt 34 false s (k + 1) = O) := Lib.hid (by rw [← HT.out, tAt_next hk (escAt_end (by omega)) hw (fun h => by rw [h92] at h; cases h.2), tAt_end (by omega)])
              clear hw h92
              go_wp2_with (fail)
              go_roundg (s.size - (k + 1))
              case measure => omega
              case rel => exact ⟨k + 1, by omega, by omega, by go_num, HT2, rfl⟩
          · have hbb : ((s[k].toNat : Int) == 92) = false := beq_eq_false_iff_ne.2 h92
            have hE : escAt s k = false := escAt_not hk h92
            have HT2 : Hid (tAt 34 false s (k + 1) = O) := Lib.hid ((tAt_next hk hE hw (fun h => by cases h.1)).symm.trans HT.out)
            clear hE hw h92
            cases hob : ((s[k].toNat : Int) == 40)
            all_goals go_wp2_with (fail)
            all_goals
              go_roundg (s.size - (k + 1))
              case measure => omega
              case rel => exact ⟨k + 1, by omega, by omega, by go_num, HT2, rfl⟩
      · have HX : Hid (titleP s i 34 O = .tuple #[.string ⟨#[]⟩, .int .u8 0, .int .i64 0, .bool false]) := Lib.hid (by rw [← HT.out, tAt_end (by omega)]; rfl)
        go_wp2_with (fail)
        exact bodyPost_ret (results_four (t := 4) (u := 5) (v := 6) (x := 7) rfl _ _ _) rfl ⟨congrArg Ending.returned HX.out.symm, Below.refl _ _⟩
  · go_enter Tryd.func28, Tryd.ntmps28
    go_wp2_with (fail)
    go_loopg [9] (s.size - (i + 1)) (fun g j wx => ∃ k : Nat, i + 1 ≤ k ∧ k + g = s.size ∧ j = .int .i64 k ∧ Hid (tAt 39 false s k = O) ∧ w = wx)
    case atStart => exact ⟨i + 1, by omega, by omega, by go_num, Lib.hid HO.out.symm, rfl⟩
    case round =>
      obtain ⟨k, hk1, hkg, rfl, HT, rfl⟩ := hrel
      by_cases hk : k < s.size
      · by_cases hw : (s[k].toNat : Int) = 39
        · have hwb : ((s[k].toNat : Int) == 39) = true := beq_iff_eq.2 hw
          have hE : escAt s k = false := escAt_not hk (by rw [hw]; decide)
          have HX : Hid (titleP s i 39 O = .tuple #[.string ⟨(rp entP 0 (s.extract (i + 1) k).data.toList).toArray⟩, .int .u8 39, .int .i64 ((k : Int) + 1), .bool true]) := Lib.hid (by rw [← HT.out, tAt_hit hk hE hw]; rfl)
          have HUk := Lib.hid (HU.out k)
          clear hE hw
          generalize (⟨(rp entP 0 (s.extract (i + 1) k).data.toList).toArray⟩ : ByteArray) = R at *
          go_wp2_with (go_at_call 31; refine HUk.out.mono ?_; rintro e w' ⟨rfl, hbel⟩)
          exact bodyPost_ret (results_four (t := 4) (u := 5) (v := 6) (x := 7) rfl _ _ _) rfl ⟨congrArg Ending.returned HX.out.symm, hbel⟩
        · have hwb : ((s[k].toNat : Int) == 39) = false := beq_eq_false_iff_ne.2 hw
          by_cases h92 : (s[k].toNat : Int) = 92
          · have hob : ((s[k].toNat : Int) == 40) = false := by rw [h92]; decide
            have hbb : ((s[k].toNat : Int) == 92) = true := beq_iff_eq.2 h92
            by_cases hl : k + 1 < s.size
            · have HT2 : Hid (tAt 39 false s (k + 2) = O) := Lib.hid ((tAt_skip hl (.inr (.inl rfl)) h92).symm.trans HT.out)
              clear hw h92
              go_wp2_with (fail)
              go_roundg (s.size - (k + 2))
              case measure => omega
              case rel => exact ⟨k + 2, by omega, by omega, by go_num, HT2, rfl⟩
            · have HT2 : Hid (tAt 39 false s (k + 1) = O) := Lib.hid (by rw [← HT.out, tAt_next hk (escAt_end (by omega)) hw (fun h => by rw [h92] at h; cases h.2), tAt_end (by omega)])
              clear hw h92
              go_wp2_with (fail)
              go_roundg (s.size - (k + 1))
              case measure => omega
              case rel => exact ⟨k + 1, by omega, by omega, by go_num, HT2, rfl⟩
          · have hbb : ((s[k].toNat : Int) == 92) = false := beq_eq_false_iff_ne.2 h92
            have hE : escAt s k = false := escAt_not hk h92
            have HT2 : Hid (tAt 39 false s (k + 1) = O) := Lib.hid ((tAt_next hk hE hw (fun h => by cases h.1)).symm.trans HT.out)
            clear hE hw h92
            cases hob : ((s[k].toNat : Int) == 40)
            all_goals go_wp2_with (fail)
            all_goals
              go_roundg (s.size - (k + 1))
              case measure => omega
              case rel => exact ⟨k + 1, by omega, by omega, by go_num, HT2, rfl⟩
      · have HX : Hid (titleP s i 39 O = .tuple #[.string ⟨#[]⟩, .int .u8 0, .int .i64 0, .bool false]) := Lib.hid (by rw [← HT.out, tAt_end (by omega)]; rfl)
        go_wp2_with (fail)
        exact bodyPost_ret (results_four (t := 4) (u := 5) (v := 6) (x := 7) rfl _ _ _) rfl ⟨congrArg Ending.returned HX.out.symm, Below.refl _ _⟩
  · go_enter Tryd.func28, Tryd.ntmps28
    go_wp2_with (fail)
    go_loopg [9] (s.size - (i + 1)) (fun g j wx => ∃ k : Nat, i + 1 ≤ k ∧ k + g = s.size ∧ j = .int .i64 k ∧ Hid (tAt 41 true s k = O) ∧ w = wx)
    case atStart => exact ⟨i + 1, by omega, by omega, by go_num, Lib.hid HO.out.symm, rfl⟩
    case round =>
      obtain ⟨k, hk1, hkg, rfl, HT, rfl⟩ := hrel
      by_cases hk : k < s.size
      · by_cases hw : (s[k].toNat : Int) = 41
        · have hwb : ((s[k].toNat : Int) == 41) = true := beq_iff_eq.2 hw
          have hE : escAt s k = false := escAt_not hk (by rw [hw]; decide)
          have HX : Hid (titleP s i 41 O = .tuple #[.string ⟨(rp entP 0 (s.extract (i + 1) k).data.toList).toArray⟩, .int .u8 41, .int .i64 ((k : Int) + 1), .bool true]) := Lib.hid (by rw [← HT.out, tAt_hit hk hE hw]; rfl)
          have HUk := Lib.hid (HU.out k)
          clear hE hw
          generalize (⟨(rp entP 0 (s.extract (i + 1) k).data.toList).toArray⟩ : ByteArray) = R at *
          go_wp2_with (go_at_call 31; refine HUk.out.mono ?_; rintro e w' ⟨rfl, hbel⟩)
          exact bodyPost_ret (results_four (t := 4) (u := 5) (v := 6) (x := 7) rfl _ _ _) rfl ⟨congrArg Ending.returned HX.out.symm, hbel⟩
        · have hwb : ((s[k].toNat : Int) == 41) = false := beq_eq_false_iff_ne.2 hw
          by_cases h92 : (s[k].toNat : Int) = 92
          · have hob : ((s[k].toNat : Int) == 40) = false := by rw [h92]; decide
            have hbb : ((s[k].toNat : Int) == 92) = true := beq_iff_eq.2 h92
            by_cases hl : k + 1 < s.size
            · have HT2 : Hid (tAt 41 true s (k + 2) = O) := Lib.hid ((tAt_skip hl (.inr (.inr rfl)) h92).symm.trans HT.out)
              clear hw h92
              go_wp2_with (fail)
              go_roundg (s.size - (k + 2))
              case measure => omega
              case rel => exact ⟨k + 2, by omega, by omega, by go_num, HT2, rfl⟩
            · have HT2 : Hid (tAt 41 true s (k + 1) = O) := Lib.hid (by rw [← HT.out, tAt_next hk (escAt_end (by omega)) hw (fun h => by rw [h92] at h; cases h.2), tAt_end (by omega)])
              clear hw h92
              go_wp2_with (fail)
              go_roundg (s.size - (k + 1))
              case measure => omega
              case rel => exact ⟨k + 1, by omega, by omega, by go_num, HT2, rfl⟩
          · have hbb : ((s[k].toNat : Int) == 92) = false := beq_eq_false_iff_ne.2 h92
            have hE : escAt s k = false := escAt_not hk h92
            by_cases hop : (s[k].toNat : Int) = 40
            · have hob : ((s[k].toNat : Int) == 40) = true := beq_iff_eq.2 hop
              have HX : Hid (titleP s i 41 O = .tuple #[.string ⟨#[]⟩, .int .u8 0, .int .i64 0, .bool false]) := Lib.hid (by rw [← HT.out, tAt_open hk hE hw rfl hop]; rfl)
              clear hE hw hop h92
              go_wp2_with (fail)
              exact bodyPost_ret (results_four (t := 4) (u := 5) (v := 6) (x := 7) rfl _ _ _) rfl ⟨congrArg Ending.returned HX.out.symm, Below.refl _ _⟩
            have hob : ((s[k].toNat : Int) == 40) = false := beq_eq_false_iff_ne.2 hop
            have HT2 : Hid (tAt 41 true s (k + 1) = O) := Lib.hid ((tAt_next hk hE hw (fun h => hop h.2)).symm.trans HT.out)
            clear hE hw h92
            go_wp2_with (fail)
            go_roundg (s.size - (k + 1))
            case measure => omega
            case rel => exact ⟨k + 1, by omega, by omega, by go_num, HT2, rfl⟩
      · have HX : Hid (titleP s i 41 O = .tuple #[.string ⟨#[]⟩, .int .u8 0, .int .i64 0, .bool false]) := Lib.hid (by rw [← HT.out, tAt_end (by omega)]; rfl)
        go_wp2_with (fail)
        exact bodyPost_ret (results_four (t := 4) (u := 5) (v := 6) (x := 7) rfl _ _ _) rfl ⟨congrArg Ending.returned HX.out.symm, Below.refl _ _⟩
end Go.Proofs.YtigeaoijcjidbaaDoor
