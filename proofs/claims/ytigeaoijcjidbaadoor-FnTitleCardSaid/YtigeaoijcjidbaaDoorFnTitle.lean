/- FnTitle's walk: for every text and place it returns true and leaves memory below as it was. -/
import Derived.Test.YtigeaoijcjidbaaDoorTitle
import Derived.Test.YtigeaoijcjidbaaDoorTexts
namespace Go.Proofs.YtigeaoijcjidbaaDoor
open Go.RowKit
theorem tail_data (s : ByteArray) (i : Nat) : (s.extract i s.size).data.toList = s.data.toList.drop i := by
  rw [Lib.extract_data, List.take_of_length_le (by simp)]
theorem tail_title (want : Int) (paren : Bool) (s : ByteArray) (i : Nat) : tAt want paren s (i + 1) = (tAt want paren (s.extract i s.size) 1).map (· + i) := by
  unfold tAt
  rw [tail_data, List.drop_drop, Nat.add_comm i 1]
  exact tE_shift want paren i 0 1 _
theorem tail_piece (s : ByteArray) (i e : Nat) : s.extract (i + 1) (e + i) = (s.extract i s.size).extract 1 e := by
  have h : (s.extract (i + 1) (e + i)).data.toList = ((s.extract i s.size).extract 1 e).data.toList := by
    rw [Lib.extract_data, Lib.extract_data, tail_data, List.drop_drop, show e + i - (i + 1) = e - 1 by omega]
  exact ByteArray.ext (Array.toList_inj.1 h)
theorem KnownTo.agree {s : ByteArray} (h : KnownTo s s.size) (i e : Nat) : rp entP 0 (s.extract (i + 1) (e + i)).data.toList = rp entS 0 (s.extract (i + 1) (e + i)).data.toList := by
  refine rp_congr _ _ (Nat.le_refl _) ?_
  intro m x hm
  rw [Lib.extract_data] at hm
  have hd : s.data.toList.drop (i + 1) = m ++ 38 :: (x ++ (s.data.toList.drop (i + 1)).drop (e + i - (i + 1))) := by
    rw [← List.cons_append, ← List.append_assoc, ← hm, List.take_append_drop]
  generalize (s.data.toList.drop (i + 1)).drop (e + i - (i + 1)) = y at hd
  have hd2 : s.data.toList.drop (i + 1 + m.length) = 38 :: (x ++ y) := by
    rw [← List.drop_drop, hd, List.drop_left]
  have hlt : i + 1 + m.length < s.size := by
    rcases Nat.lt_or_ge (i + 1 + m.length) s.size with h' | h'
    · exact h'
    · rw [List.drop_eq_nil_of_le (by simpa using h')] at hd2; cases hd2
  rw [drop_cons s _ hlt] at hd2
  injection hd2 with e1 e2
  have hb := h (i + 1 + m.length) hlt hlt (by rw [e1]; rfl)
  rw [e2] at hb
  have := ent_agree (x ++ y) x.length hb
  rwa [List.take_left] at this
theorem md_parseLinkTitle_no (s : ByteArray) (i : Nat) (w : World) (hi : i < s.size) (h1 : (s[i].toNat : Int) ≠ 34) (h2 : (s[i].toNat : Int) ≠ 39) (h3 : (s[i].toNat : Int) ≠ 40) :
    Calls Tryd.prog 28 #[.string s, .int .i64 i] w fun e w' => e = .returned (.tuple #[.string ⟨#[]⟩, .int .u8 0, .int .i64 0, .bool false]) ∧ Below w.heap.size w w' := by
  have b1 : ((s[i].toNat : Int) == 34) = false := beq_eq_false_iff_ne.2 h1
  have b2 : ((s[i].toNat : Int) == 39) = false := beq_eq_false_iff_ne.2 h2
  have b3 : ((s[i].toNat : Int) == 40) = false := beq_eq_false_iff_ne.2 h3
  clear h1 h2 h3
  go_enter Tryd.func28, Tryd.ntmps28
  go_wp2_with (fail)
  exact bodyPost_ret (results_four (t := 4) (u := 5) (v := 6) (x := 7) rfl _ _ _) rfl ⟨rfl, Below.refl _ _⟩
theorem spec_ReadTitle_no (t : ByteArray) (w : World) (h0 : 0 < t.size) (h1 : (t[0].toNat : Int) ≠ 34) (h2 : (t[0].toNat : Int) ≠ 39) (h3 : (t[0].toNat : Int) ≠ 40) :
    Calls Tryd.prog 13 #[.string t] w fun e w' => e = .returned (.tuple #[.string ⟨#[]⟩, .int .i64 (-1)]) ∧ w = w' := by
  have hz : ((t.size : Int) == 0) = false := beq_eq_false_iff_ne.2 (by omega)
  have b1 : ((t[0].toNat : Int) != 34) = true := by simpa using h1
  have b2 : ((t[0].toNat : Int) != 39) = true := by simpa using h2
  have b3 : ((t[0].toNat : Int) != 40) = true := by simpa using h3
  clear h1 h2 h3
  go_enter Tryd.func13, Tryd.ntmps13
  go_wp2_with (fail)
  go_ret2
  exact ⟨rfl, rfl⟩
theorem tE_lt {want : Int} {paren : Bool} {e : Nat} : ∀ (n k : Nat) (l : List UInt8), tE want paren n k l = some e → e < k + l.length
  | _, _, [], h => by simp [tE] at h
  | n + 1, k, c :: l, h => by
    rw [tE] at h
    have := tE_lt n (k + 1) l h
    rw [List.length_cons]; omega
  | 0, k, c :: l, h => by
    rw [tE] at h
    rw [List.length_cons]
    split at h
    · have := tE_lt 1 (k + 1) l h; omega
    · split at h
      · injection h with h; omega
      · split at h
        · cases h
        · have := tE_lt 0 (k + 1) l h; omega
/-- a call of the package's reading, through both doors -/
theorem impl_LinkTitle (s : ByteArray) (i : Nat) (w : World) (V : ByteArray) (c n : Int) (b : Bool)
    (H : Calls Tryd.prog 28 #[.string s, .int .i64 i] w fun e w' => e = .returned (.tuple #[.string V, .int .u8 c, .int .i64 n, .bool b]) ∧ Below w.heap.size w w') :
    Calls Tryd.prog 12 #[.string s, .int .i64 i] w fun e w' => e = .returned (.tuple #[.string V, .int .u8 c, .int .i64 n, .bool b]) ∧ Below w.heap.size w w' := by
  have H1 : Calls Tryd.prog 22 #[.string s, .int .i64 i] w fun e w' => e = .returned (.tuple #[.string V, .int .u8 c, .int .i64 n, .bool b]) ∧ Below w.heap.size w w' := by
    have HH := Lib.hid H
    clear H
    go_enter Tryd.func22, Tryd.ntmps22
    go_wp2_with (go_at_call 28; refine HH.out.mono ?_; rintro e w' ⟨rfl, hbel⟩)
    exact bodyPost_ret (results_four (t := 4) (u := 5) (v := 6) (x := 7) rfl _ _ _) rfl ⟨rfl, hbel⟩
  have HH := Lib.hid H1
  clear H H1
  go_enter Tryd.func12, Tryd.ntmps12
  go_wp2_with (go_at_call 22; refine HH.out.mono ?_; rintro e w' ⟨rfl, hbel⟩)
  exact bodyPost_ret (results_four (t := 4) (u := 5) (v := 6) (x := 7) rfl _ _ _) rfl ⟨rfl, hbel⟩
set_option maxHeartbeats 4000000 in
set_option maxRecDepth 100000 in
theorem walkFnTitle (a0 : ByteArray) (a1 : Int) (w : World) (w0 : a0.size ≤ maxLen) (_w1 : (Lit.int .i64 a1).wf = true) (ht : TableAt w) (h0 : 0 < w.heap.size) : Calls Tryd.prog 4 #[.string a0, .int .i64 a1] w fun e w' => e = .returned (.bool true) ∧ Below w.heap.size w w' := by
  have hs : a0.size ≤ 9223372036854775807 := w0
  have HI := Lib.hid (fun w : World => laws_inside a0 a1 200 w w0)
  cases hin : insideB a0 a1 200 with
  | false =>
    rw [hin] at HI
    clear ht
    go_enter Tryd.func4, Tryd.ntmps4
    go_wp2_with (go_at_call 8; refine (HI.out _).mono ?_; rintro e w' ⟨rfl, rfl⟩)
    all_goals (go_ret; exact ⟨rfl, Below.refl _ _⟩)
  | true =>
    rw [hin] at HI
    obtain ⟨hh0, hh1, hh2, hh3⟩ := insideB_iff hin
    have HA := Lib.hid hh3
    clear hh3 hin
    obtain ⟨i, rfl⟩ := Int.eq_ofNat_of_zero_le hh0
    clear hh0
    by_cases hl : i = a0.size
    · subst hl
      clear ht
      go_enter Tryd.func4, Tryd.ntmps4
      go_wp2_with (go_at_call 8; refine (HI.out _).mono ?_; rintro e w' ⟨rfl, rfl⟩)
      all_goals (go_ret; exact ⟨rfl, Below.refl _ _⟩)
    · have hlt : i < a0.size := by omega
      have hne : ((i : Int) == (a0.size : Int)) = false := beq_eq_false_iff_ne.2 (by omega)
      clear hl
      have hs1 : a0.size ≤ 1000 := by omega
      have HO := Lib.hid (fun w => spec_OtherName a0 w hs1)
      have HU := Lib.hid (fun w => laws_numbered a0 w hs1)
      have HG := Lib.hid (fun w => laws_gap a0 w hs1)
      have HT := Lib.hid ht
      clear ht
      have hts : (a0.extract i a0.size).size ≤ 1000 := by rw [ByteArray.size_extract]; omega
      have ht0 : 0 < (a0.extract i a0.size).size := by rw [ByteArray.size_extract]; omega
      have hq0 : (a0.extract i a0.size)[0] = a0[i] := by rw [ByteArray.getElem_extract]; rfl
      go_enter Tryd.func4, Tryd.ntmps4
      go_upto_region 7 with (first
        | (go_at_call 8; refine (HI.out _).mono ?_; rintro e w' ⟨rfl, rfl⟩)
        | (go_at_call 9; refine (HO.out _).mono ?_; rintro e w' ⟨bo, rfl, ho, rfl⟩)
        | (go_at_call 10; refine (HU.out _).mono ?_; rintro e w' ⟨bn, rfl, hnum, rfl⟩)
        | (go_at_call 11; refine (HG.out _).mono ?_; rintro e w' ⟨bg, rfl, hg, rfl⟩))
      all_goals try (go_ret; exact ⟨rfl, Below.refl _ _⟩)
      have KN : KnownTo a0 a0.size := ho.out (by cases bo <;> first | rfl | contradiction)
      have NN : NoNum a0 := hnum.out (by cases bn <;> first | rfl | contradiction)
      have NG : NoGap a0 := hg.out (by cases bg <;> first | rfl | contradiction)
      have hta : allB linB (a0.extract i a0.size).data.toList = true := by
        rw [tail_data]; unfold allB; rw [List.all_eq_true]; exact fun c hc => List.all_eq_true.1 HA.out c (List.mem_of_mem_drop hc)
      have hbel : Below w.heap.size w w := Below.refl _ _
      by_cases hm : ∃ q want paren, Marks q want paren ∧ (a0[i].toNat : Int) = q
      · obtain ⟨q, want, paren, hm, hq⟩ := hm
        have HL0 := md_parseLinkTitle q want paren hm a0 i w hs1 hlt hq HT.out h0
        have HR0 := fun w => spec_ReadTitle q want paren hm (a0.extract i a0.size) w hts ht0 (by rw [hq0]; exact hq) hta (NG.tail i) (NN.piece i a0.size)
        rw [tail_title] at HL0
        cases hO : tAt want paren (a0.extract i a0.size) 1 with
        | none =>
          rw [hO] at HL0 HR0
          have HL := Lib.hid (impl_LinkTitle a0 i w _ _ _ _ HL0)
          have HR := Lib.hid HR0
          unfold titleS at HR
          clear HL0 HR0 hO hta KN NN NG
          go_wp2_with (first
            | (go_at_call 12; refine HL.out.mono ?_; rintro e w' ⟨rfl, hb⟩; replace hbel := hb)
            | (go_at_call 13; refine (HR.out _).mono ?_; rintro e w' ⟨rfl, rfl⟩))
          go_ret
          exact ⟨rfl, hbel⟩
        | some e =>
          rw [hO] at HL0 HR0
          have hlim := tE_lt _ _ _ hO
          rw [List.length_drop] at hlim
          have hlim2 : e ≤ 300 := by simp at hlim; omega
          clear hlim
          have hag : rp entP 0 (a0.extract (i + 1) (e + i)).data.toList = rp entS 0 ((a0.extract i a0.size).extract 1 e).data.toList := by
            rw [KN.agree i e, tail_piece]
          unfold titleP at HL0
          unfold titleS at HR0
          simp only [Option.map_some] at HL0 HR0
          rw [hag] at HL0
          have HL := Lib.hid (impl_LinkTitle a0 i w _ _ _ _ HL0)
          have HR := Lib.hid HR0
          clear HL0 HR0 hO hta KN NN NG hag
          generalize (⟨(rp entS 0 ((a0.extract i a0.size).extract 1 e).data.toList).toArray⟩ : ByteArray) = V at *
          rcases hm with ⟨rfl, rfl, rfl⟩ | ⟨rfl, rfl, rfl⟩ | ⟨rfl, rfl, rfl⟩
          all_goals
            go_wp2_with (first
              | (go_at_call 12; refine HL.out.mono ?_; rintro e w' ⟨rfl, hb⟩; replace hbel := hb)
              | (go_at_call 13; refine (HR.out _).mono ?_; rintro e w' ⟨rfl, rfl⟩))
            go_ret
            refine ⟨ret_bool ?_, hbel⟩
            go_light
            first | rfl | (simp; done) | (simp; omega)
      · have e1 : (a0[i].toNat : Int) ≠ 34 := fun h => hm ⟨34, 34, false, .inl ⟨rfl, rfl, rfl⟩, h⟩
        have e2 : (a0[i].toNat : Int) ≠ 39 := fun h => hm ⟨39, 39, false, .inr (.inl ⟨rfl, rfl, rfl⟩), h⟩
        have e3 : (a0[i].toNat : Int) ≠ 40 := fun h => hm ⟨40, 41, true, .inr (.inr ⟨rfl, rfl, rfl⟩), h⟩
        have HL := Lib.hid (impl_LinkTitle a0 i w _ _ _ _ (md_parseLinkTitle_no a0 i w hlt e1 e2 e3))
        have HR := Lib.hid (fun w => spec_ReadTitle_no (a0.extract i a0.size) w ht0 (by rw [hq0]; exact e1) (by rw [hq0]; exact e2) (by rw [hq0]; exact e3))
        clear hm e1 e2 e3 hta KN NN NG
        go_wp2_with (first
          | (go_at_call 12; refine HL.out.mono ?_; rintro e w' ⟨rfl, hb⟩; replace hbel := hb)
          | (go_at_call 13; refine (HR.out _).mono ?_; rintro e w' ⟨rfl, rfl⟩))
        go_ret
        exact ⟨rfl, hbel⟩
end Go.Proofs.YtigeaoijcjidbaaDoor
