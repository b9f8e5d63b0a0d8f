/- The package's reading of a title (the part of the text on titles that needs no reference). -/
import Derived.Test.YtpdpkggojlpklaaDoorUnesc
import Derived.Test.YtpdpkggojlpklaaDoorTitlePlain
namespace Go.Proofs.YtpdpkggojlpklaaDoor
open Go.RowKit
/-- the marks of a title: what begins it, what ends it, whether it stands in parentheses -/
def Marks (q want : Int) (paren : Bool) : Prop := (q = 34 ∧ want = 34 ∧ paren = false) ∨ (q = 39 ∧ want = 39 ∧ paren = false) ∨ (q = 40 ∧ want = 41 ∧ paren = true)
theorem results_four {fn : Func} {t u v x : Tmp} (h : fn.results = #[.tmp t, .tmp u, .tmp v, .tmp x]) (tmps : Array Value) (P : Program) (w : World) :
    (results fn tmps).run P w = .ok (.tuple #[tmps.getD t undef, tmps.getD u undef, tmps.getD v undef, tmps.getD x undef]) w := by simp [results, h]
/-- what the package hands back for a title -/
def titleP (s : ByteArray) (i : Nat) (want : Int) (o : Option Nat) : Value :=
  match o with
  | some e => .tuple #[.string ⟨(rp entP 0 (s.extract (i + 1) e).data.toList).toArray⟩, .int .u8 want, .int .i64 ((e : Int) + 1), .bool true]
  | none => .tuple #[.string ⟨#[]⟩, .int .u8 0, .int .i64 0, .bool false]
set_option maxHeartbeats 4000000 in
set_option maxRecDepth 100000 in
theorem md_parseLinkTitle (q want : Int) (paren : Bool) (hm : Marks q want paren) (s : ByteArray) (i : Nat) (w : World) (hs : s.size ≤ 1000) (hi : i < s.size) (hq : (s[i].toNat : Int) = q) (ht : TableAt w) (h0 : 4 < w.heap.size) :
    Calls Tryd.prog 32 #[.string s, .int .i64 i] w fun e w' => e = .returned (titleP s i want (tAt want paren s (i + 1))) ∧ Below w.heap.size w w' := by
  obtain ⟨O, hO⟩ : ∃ O, O = tAt want paren s (i + 1) := ⟨_, rfl⟩
  have HO := Lib.hid hO
  rw [← hO]
  clear hO
  have HU := Lib.hid (fun (k : Nat) => md_Replace (s.extract (i + 1) k) w (by rw [ByteArray.size_extract]; omega) ht h0)
  clear ht
  rcases hm with ⟨rfl, rfl, rfl⟩ | ⟨rfl, rfl, rfl⟩ | ⟨rfl, rfl, rfl⟩
  · go_enter Tryd.func32, Tryd.ntmps32
    go_wp2_with (fail)
    go_loopg [9] (s.size - (i + 1)) (fun g j wx => ∃ k : Nat, i + 1 ≤ k ∧ k + g = s.size ∧ j = .int .i64 k ∧ Hid (tAt 34 false s k = O) ∧ w = wx)
    case atStart => exact ⟨i + 1, by omega, by omega, by go_num, Lib.hid HO.out.symm, rfl⟩
    case round =>
      obtain ⟨k, hk1, hkg, rfl, HT, rfl⟩ := hrel
      by_cases hk : k < s.size
      · by_cases hw : (s[k].toNat : Int) = 34
        · have hwb : ((s[k].toNat : Int) == 34) = true := beq_iff_eq.2 hw
          have hE : escAt s k = false := escAt_not hk (by rw [hw]; decide)
          have HX : Hid (titleP s i 34 O = .tuple #[.string ⟨(rp entP 0 (s.extract (i + 1) k).data.toList).toArray⟩, .int .u8 34, .int .i64 ((k : Int) + 1), .bool true]) := Lib.hid (by rw [← HT.out, tAt_hit hk hE hw]; rfl)
          have HUk := Lib.hid (HU.out k)
          clear hE hw
          generalize (⟨(rp entP 0 (s.extract (i + 1) k).data.toList).toArray⟩ : ByteArray) = R at *
          go_wp2_with (go_at_call 38; refine HUk.out.mono ?_; rintro e w' ⟨rfl, hbel⟩)
          exact bodyPost_ret (results_four (t := 4) (u := 5) (v := 6) (x := 7) rfl _ _ _) rfl ⟨congrArg Ending.returned HX.out.symm, hbel⟩
        · have hwb : ((s[k].toNat : Int) == 34) = false := beq_eq_false_iff_ne.2 hw
          by_cases h92 : (s[k].toNat : Int) = 92
          · have hob : ((s[k].toNat : Int) == 40) = false := by rw [h92]; decide
            have hbb : ((s[k].toNat : Int) == 92) = true := beq_iff_eq.2 h92
            by_cases hl : k + 1 < s.size
            · have HT2 : Hid (tAt 34 false s (k + 2) = O) := Lib.hid ((tAt_skip hl (.inl rfl) h92).symm.trans HT.out)
              clear hw h92
              go_wp2_with (fail)
              go_roundg (s.size - (k + 2))
              case measure => omega
              case rel => exact ⟨k + 2, by omega, by omega, by go_num, HT2, rfl⟩
            · have HT2 : Hid (tAt 34 false s (k + 1) = O) := Lib.hid (by rw [← HT.out, tAt_next hk (escAt_end (by omega)) hw (fun h => by rw [h92] at h; cases h.2), tAt_end (by omega)])
              clear hw h92
              go_wp2_with (fail)
              go_roundg (s.size - (k + 1))
              case measure => omega
              case rel => exact ⟨k + 1, by omega, by omega, by go_num, HT2, rfl⟩
          · have hbb : ((s[k].toNat : Int) == 92) = false := beq_eq_false_iff_ne.2 h92
            have hE : escAt s k = false := escAt_not hk h92
            have HT2 : Hid (tAt 34 false s (k + 1) = O) := Lib.hid ((tAt_next hk hE hw (fun h => by cases h.1)).symm.trans HT.out)
            clear hE hw h92
            cases hob : ((s[k].toNat : Int) == 40)
            all_goals go_wp2_with (fail)
            all_goals
              go_roundg (s.size - (k + 1))
              case measure => omega
              case rel => exact ⟨k + 1, by omega, by omega, by go_num, HT2, rfl⟩
      · have HX : Hid (titleP s i 34 O = .tuple #[.string ⟨#[]⟩, .int .u8 0, .int .i64 0, .bool false]) := Lib.hid (by rw [← HT.out, tAt_end (by omega)]; rfl)
        go_wp2_with (fail)
        exact bodyPost_ret (results_four (t := 4) (u := 5) (v := 6) (x := 7) rfl _ _ _) rfl ⟨congrArg Ending.returned HX.out.symm, Below.refl _ _⟩
  · go_enter Tryd.func32, Tryd.ntmps32
    go_wp2_with (fail)
    go_loopg [9] (s.size - (i + 1)) (fun g j wx => ∃ k : Nat, i + 1 ≤ k ∧ k + g = s.size ∧ j = .int .i64 k ∧ Hid (tAt 39 false s k = O) ∧ w = wx)
    case atStart => exact ⟨i + 1, by omega, by omega, by go_num, Lib.hid HO.out.symm, rfl⟩
    case round =>
      obtain ⟨k, hk1, hkg, rfl, HT, rfl⟩ := hrel
      by_cases hk : k < s.size
      · by_cases hw : (s[k].toNat : Int) = 39
        · have hwb : ((s[k].toNat : Int) == 39) = true := beq_iff_eq.2 hw
          have hE : escAt s k = false := escAt_not hk (by rw [hw]; decide)
          have HX : Hid (titleP s i 39 O = .tuple #[.string ⟨(rp entP 0 (s.extract (i + 1) k).data.toList).toArray⟩, .int .u8 39, .int .i64 ((k : Int) + 1), .bool true]) := Lib.hid (by rw [← HT.out, tAt_hit hk hE hw]; rfl)
          have HUk := Lib.hid (HU.out k)
          clear hE hw
          generalize (⟨(rp entP 0 (s.extract (i + 1) k).data.toList).toArray⟩ : ByteArray) = R at *
          go_wp2_with (go_at_call 38; refine HUk.out.mono ?_; rintro e w' ⟨rfl, hbel⟩)
          exact bodyPost_ret (results_four (t := 4) (u := 5) (v := 6) (x := 7) rfl _ _ _) rfl ⟨congrArg Ending.returned HX.out.symm, hbel⟩
        · have hwb : ((s[k].toNat : Int) == 39) = false := beq_eq_false_iff_ne.2 hw
          by_cases h92 : (s[k].toNat : Int) = 92
          · have hob : ((s[k].toNat : Int) == 40) = false := by rw [h92]; decide
            have hbb : ((s[k].toNat : Int) == 92) = true := beq_iff_eq.2 h92
            by_cases hl : k + 1 < s.size
            · have HT2 : Hid (tAt 39 false s (k + 2) = O) := Lib.hid ((tAt_skip hl (.inr (.inl rfl)) h92).symm.trans HT.out)
              clear hw h92
              go_wp2_with (fail)
              go_roundg (s.size - (k + 2))
              case measure => omega
              case rel => exact ⟨k + 2, by omega, by omega, by go_num, HT2, rfl⟩
            · have HT2 : Hid (tAt 39 false s (k + 1) = O) := Lib.hid (by rw [← HT.out, tAt_next hk (escAt_end (by omega)) hw (fun h => by rw [h92] at h; cases h.2), tAt_end (by omega)])
              clear hw h92
              go_wp2_with (fail)
              go_roundg (s.size - (k + 1))
              case measure => omega
              case rel => exact ⟨k + 1, by omega, by omega, by go_num, HT2, rfl⟩
          · have hbb : ((s[k].toNat : Int) == 92) = false := beq_eq_false_iff_ne.2 h92
            have hE : escAt s k = false := escAt_not hk h92
            have HT2 : Hid (tAt 39 false s (k + 1) = O) := Lib.hid ((tAt_next hk hE hw (fun h => by cases h.1)).symm.trans HT.out)
            clear hE hw h92
            cases hob : ((s[k].toNat : Int) == 40)
            all_goals go_wp2_with (fail)
            all_goals
              go_roundg (s.size - (k + 1))
              case measure => omega
              case rel => exact ⟨k + 1, by omega, by omega, by go_num, HT2, rfl⟩
      · have HX : Hid (titleP s i 39 O = .tuple #[.string ⟨#[]⟩, .int .u8 0, .int .i64 0, .bool false]) := Lib.hid (by rw [← HT.out, tAt_end (by omega)]; rfl)
        go_wp2_with (fail)
        exact bodyPost_ret (results_four (t := 4) (u := 5) (v := 6) (x := 7) rfl _ _ _) rfl ⟨congrArg Ending.returned HX.out.symm, Below.refl _ _⟩
  · go_enter Tryd.func32, Tryd.ntmps32
    go_wp2_with (fail)
    go_loopg [9] (s.size - (i + 1)) (fun g j wx => ∃ k : Nat, i + 1 ≤ k ∧ k + g = s.size ∧ j = .int .i64 k ∧ Hid (tAt 41 true s k = O) ∧ w = wx)
    case atStart => exact ⟨i + 1, by omega, by omega, by go_num, Lib.hid HO.out.symm, rfl⟩
    case round =>
      obtain ⟨k, hk1, hkg, rfl, HT, rfl⟩ := hrel
      by_cases hk : k < s.size
      · by_cases hw : (s[k].toNat : Int) = 41
        · have hwb : ((s[k].toNat : Int) == 41) = true := beq_iff_eq.2 hw
          have hE : escAt s k = false := escAt_not hk (by rw [hw]; decide)
          have HX : Hid (titleP s i 41 O = .tuple #[.string ⟨(rp entP 0 (s.extract (i + 1) k).data.toList).toArray⟩, .int .u8 41, .int .i64 ((k : Int) + 1), .bool true]) := Lib.hid (by rw [← HT.out, tAt_hit hk hE hw]; rfl)
          have HUk := Lib.hid (HU.out k)
          clear hE hw
          generalize (⟨(rp entP 0 (s.extract (i + 1) k).data.toList).toArray⟩ : ByteArray) = R at *
          go_wp2_with (go_at_call 38; refine HUk.out.mono ?_; rintro e w' ⟨rfl, hbel⟩)
          exact bodyPost_ret (results_four (t := 4) (u := 5) (v := 6) (x := 7) rfl _ _ _) rfl ⟨congrArg Ending.returned HX.out.symm, hbel⟩
        · have hwb : ((s[k].toNat : Int) == 41) = false := beq_eq_false_iff_ne.2 hw
          by_cases h92 : (s[k].toNat : Int) = 92
          · have hob : ((s[k].toNat : Int) == 40) = false := by rw [h92]; decide
            have hbb : ((s[k].toNat : Int) == 92) = true := beq_iff_eq.2 h92
            by_cases hl : k + 1 < s.size
            · have HT2 : Hid (tAt 41 true s (k + 2) = O) := Lib.hid ((tAt_skip hl (.inr (.inr rfl)) h92).symm.trans HT.out)
              clear hw h92
              go_wp2_with (fail)
              go_roundg (s.size - (k + 2))
              case measure => omega
              case rel => exact ⟨k + 2, by omega, by omega, by go_num, HT2, rfl⟩
            · have HT2 : Hid (tAt 41 true s (k + 1) = O) := Lib.hid (by rw [← HT.out, tAt_next hk (escAt_end (by omega)) hw (fun h => by rw [h92] at h; cases h.2), tAt_end (by omega)])
              clear hw h92
              go_wp2_with (fail)
              go_roundg (s.size - (k + 1))
              case measure => omega
              case rel => exact ⟨k + 1, by omega, by omega, by go_num, HT2, rfl⟩
          · have hbb : ((s[k].toNat : Int) == 92) = false := beq_eq_false_iff_ne.2 h92
            have hE : escAt s k = false := escAt_not hk h92
            by_cases hop : (s[k].toNat : Int) = 40
            · have hob : ((s[k].toNat : Int) == 40) = true := beq_iff_eq.2 hop
              have HX : Hid (titleP s i 41 O = .tuple #[.string ⟨#[]⟩, .int .u8 0, .int .i64 0, .bool false]) := Lib.hid (by rw [← HT.out, tAt_open hk hE hw rfl hop]; rfl)
              clear hE hw hop h92
              go_wp2_with (fail)
              exact bodyPost_ret (results_four (t := 4) (u := 5) (v := 6) (x := 7) rfl _ _ _) rfl ⟨congrArg Ending.returned HX.out.symm, Below.refl _ _⟩
            have hob : ((s[k].toNat : Int) == 40) = false := beq_eq_false_iff_ne.2 hop
            have HT2 : Hid (tAt 41 true s (k + 1) = O) := Lib.hid ((tAt_next hk hE hw (fun h => hop h.2)).symm.trans HT.out)
            clear hE hw h92
            go_wp2_with (fail)
            go_roundg (s.size - (k + 1))
            case measure => omega
            case rel => exact ⟨k + 1, by omega, by omega, by go_num, HT2, rfl⟩
      · have HX : Hid (titleP s i 41 O = .tuple #[.string ⟨#[]⟩, .int .u8 0, .int .i64 0, .bool false]) := Lib.hid (by rw [← HT.out, tAt_end (by omega)]; rfl)
        go_wp2_with (fail)
        exact bodyPost_ret (results_four (t := 4) (u := 5) (v := 6) (x := 7) rfl _ _ _) rfl ⟨congrArg Ending.returned HX.out.symm, Below.refl _ _⟩
end Go.Proofs.YtpdpkggojlpklaaDoor
