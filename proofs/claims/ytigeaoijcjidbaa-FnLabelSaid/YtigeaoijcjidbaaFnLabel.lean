/- FnLabel's walk: for every text and place it returns true and leaves memory below as it was. -/
import Derived.Test.YtigeaoijcjidbaaReadLabel
import Derived.Test.YtigeaoijcjidbaaShorn
import Derived.Test.YtigeaoijcjidbaaTexts
namespace Go.Proofs.Ytigeaoijcjidbaa
open Go.RowKit
theorem md_ZZLinkLabel (s : ByteArray) (i : Nat) (w : World) (hs : s.size ≤ 900) (hi : i < s.size) (hb : (s[i].toNat : Int) = 91) :
    Calls Try.prog 63 #[.string s, .int .i64 i] w (SomeRead w (labelRes s i)) := by
  obtain ⟨V, hV⟩ : ∃ V, V = labelRes s i := ⟨_, rfl⟩
  have H := Lib.hid (fun (p : Value) (w : World) => md_parseLinkLabel p s i w hs hi hb)
  rw [← hV] at H ⊢
  have hT : ∃ a b c, V = .tuple #[a, b, c] := by
    rw [hV]; unfold labelRes; split <;> exact ⟨_, _, _, rfl⟩
  obtain ⟨a, b, c, rfl⟩ := hT
  clear hV hb
  go_enter Try.func63, Try.ntmps63
  go_wp2_with (first
    | (go_at_call 89; refine (md_zzState _).mono ?_; rintro e w1 ⟨sb, rfl, hsb1, hsb2, hc6, hf6, hbel⟩)
    | (go_at_call 88; refine (H.out _ _).mono ?_; rintro e w' ⟨rfl, rfl⟩))
  go_ret3
  exact ⟨rfl, hbel⟩
theorem impl_LinkLabel (s : ByteArray) (i : Nat) (w : World) (hs : s.size ≤ 900) (hi : i < s.size) (hb : (s[i].toNat : Int) = 91) :
    Calls Try.prog 36 #[.string s, .int .i64 i] w (SomeRead w (labelRes s i)) := by
  obtain ⟨V, hV⟩ : ∃ V, V = labelRes s i := ⟨_, rfl⟩
  have H := Lib.hid (fun (w : World) => md_ZZLinkLabel s i w hs hi hb)
  rw [← hV] at H ⊢
  have hT : ∃ a b c, V = .tuple #[a, b, c] := by
    rw [hV]; unfold labelRes; split <;> exact ⟨_, _, _, rfl⟩
  obtain ⟨a, b, c, rfl⟩ := hT
  clear hV hb
  go_enter Try.func36, Try.ntmps36
  go_wp2_with (go_at_call 63; refine (H.out _).mono ?_; rintro e w1 ⟨rfl, hbel⟩)
  go_ret3
  exact ⟨rfl, hbel⟩
theorem tail_list (s : ByteArray) (i : Nat) : (s.extract i s.size).data.toList = s.data.toList.drop i := by
  rw [extract_piece, List.take_of_length_le (by simp)]
theorem tail_head (s : ByteArray) (i : Nat) (hi : i < s.size) (h0 : 0 < (s.extract i s.size).size) : (s.extract i s.size)[0] = s[i] := by
  have h1 := toList_head (s.extract i s.size) h0
  rw [tail_list, drop_cons s i hi] at h1
  injection h1 with h2 _
  exact h2.symm
theorem allB_drop {p : Int → Bool} {l : List UInt8} (h : allB p l = true) (i : Nat) : allB p (l.drop i) = true := by
  unfold allB at *; rw [List.all_eq_true] at *; exact fun c hc => h c (List.mem_of_mem_drop hc)
theorem lstripF_congr (p q : Int → Bool) : ∀ l : List UInt8, (∀ c ∈ l, p (c.toNat : Int) = q (c.toNat : Int)) → stripF p l = stripF q l
  | [], _ => rfl
  | c :: l, h => by
    have hc := h c (by simp)
    have ih := lstripF_congr p q l (fun d hd => h d (by simp [hd]))
    cases hp : p (c.toNat : Int) with
    | true => rw [stripF_cons_yes hp, stripF_cons_yes (by rw [← hc]; exact hp), ih]
    | false => rw [stripF_cons_no hp, stripF_cons_no (by rw [← hc]; exact hp)]
theorem mem_of_strip {p : Int → Bool} {l : List UInt8} {c : UInt8} (h : c ∈ stripF p l) : c ∈ l := (List.dropWhile_sublist _).mem h
theorem strip2_congr (p q : Int → Bool) (l : List UInt8) (h : ∀ c ∈ l, p (c.toNat : Int) = q (c.toNat : Int)) : strip2 p l = strip2 q l := by
  have h1 : ∀ m : List UInt8, stripE p m = (stripF p m.reverse).reverse := fun _ => rfl
  have h2 : ∀ m : List UInt8, stripE q m = (stripF q m.reverse).reverse := fun _ => rfl
  unfold strip2
  rw [lstripF_congr p q l h, h1, h2, lstripF_congr p q _ (fun c hc => h c (mem_of_strip (List.mem_reverse.1 hc)))]
theorem bel_next {B : Nat} {w a b : World} (h : Below B w a) (k : Below a.heap.size a b) (hB : B ≤ w.heap.size) : Below B w b := h.trans (k.mono (Nat.le_trans hB h.size))
set_option maxHeartbeats 1000000 in
theorem walkFnLabel (a0 : ByteArray) (a1 : Int) (w : World) (w0 : a0.size ≤ maxLen) (_w1 : (Lit.int .i64 a1).wf = true) : Calls Try.prog 9 #[.string a0, .int .i64 a1] w fun e w' => e = .returned (.bool true) ∧ Below w.heap.size w w' := by
  have hs : a0.size ≤ 9223372036854775807 := w0
  have HI := Lib.hid (fun w : World => laws_inside a0 a1 200 w w0)
  cases hin : insideB a0 a1 200 with
  | false =>
    rw [hin] at HI
    go_enter Try.func9, Try.ntmps9
    go_wp2_with (go_at_call 14; refine (HI.out _).mono ?_; rintro e w' ⟨rfl, rfl⟩)
    all_goals (go_ret; exact ⟨rfl, Below.refl _ _⟩)
  | true =>
    rw [hin] at HI
    obtain ⟨h0, h1, h2, h3⟩ := insideB_iff hin
    have HA := Lib.hid h3
    clear h3 hin
    obtain ⟨i, rfl⟩ := Int.eq_ofNat_of_zero_le h0
    clear h0
    by_cases hl : i = a0.size
    · subst hl
      go_enter Try.func9, Try.ntmps9
      go_wp2_with (go_at_call 14; refine (HI.out _).mono ?_; rintro e w' ⟨rfl, rfl⟩)
      all_goals (go_ret; exact ⟨rfl, Below.refl _ _⟩)
    · have hlt : i < a0.size := by omega
      have hne : ((i : Int) == (a0.size : Int)) = false := beq_eq_false_iff_ne.2 (by omega)
      clear hl
      by_cases hb : (a0[i].toNat : Int) = 91
      · have hts : (a0.extract i a0.size).size ≤ 900 := by rw [ByteArray.size_extract]; omega
        have ht0 : 0 < (a0.extract i a0.size).size := by rw [ByteArray.size_extract]; omega
        have HL := Lib.hid (fun w : World => impl_LinkLabel a0 i w (by omega) hlt hb)
        have HR := Lib.hid (fun w : World => spec_ReadLabel (a0.extract i a0.size) w hts ht0 (by rw [tail_head a0 i hlt ht0]; exact hb) (by rw [tail_list]; exact allB_drop HA.out i))
        have hbel : Below w.heap.size w w := Below.refl _ _
        have hbb : ((a0[i].toNat : Int) != 91) = false := by simp [hb]
        cases hlab : labelOf (a0.data.toList.drop i) with
        | none =>
          have e1 : labelRes a0 i = .tuple #[.string ⟨#[]⟩, .int .i64 0, .bool false] := by unfold labelRes; rw [hlab]
          have e2 : readRes (a0.extract i a0.size) = .tuple #[.string ⟨#[]⟩, .int .i64 (-1)] := by unfold readRes; rw [tail_list, hlab]
          rw [e1] at HL
          rw [e2] at HR
          clear e1 e2 hlab hts ht0 hb
          go_enter Try.func9, Try.ntmps9
          go_wp2_with (first
            | (go_at_call 14; refine (HI.out _).mono ?_; rintro e w' ⟨rfl, rfl⟩)
            | (go_at_call 36; refine (HL.out _).mono ?_; rintro e w2 ⟨rfl, hb⟩; replace hbel := bel_next hbel hb (Nat.le_refl _); clear hb)
            | (go_at_call 37; refine (HR.out _).mono ?_; rintro e w2 ⟨rfl, hb⟩; replace hbel := bel_next hbel hb (Nat.le_refl _); clear hb))
          go_ret
          exact ⟨rfl, hbel⟩
        | some e =>
          obtain ⟨X, hX⟩ : ∃ X : ByteArray, X = ⟨(strip2 spaceB (((a0.data.toList.drop i).take e).drop 1)).toArray⟩ := ⟨_, rfl⟩
          obtain ⟨Y, hY⟩ : ∃ Y : ByteArray, Y = (a0.extract i a0.size).extract 1 e := ⟨_, rfl⟩
          have e1 : labelRes a0 i = .tuple #[.string X, .int .i64 ((i : Int) + e + 1), .bool true] := by unfold labelRes; rw [hlab, hX]
          have e2 : readRes (a0.extract i a0.size) = .tuple #[.string Y, .int .i64 ((e : Int) + 1)] := by unfold readRes; rw [tail_list, hlab, hY]
          have hYl : Y.data.toList = ((a0.data.toList.drop i).take e).drop 1 := by rw [hY, extract_piece, tail_list]
          have hYs : Y.size ≤ maxLen := by rw [hY, ByteArray.size_extract, ByteArray.size_extract]; unfold maxLen; omega
          have hYX : (⟨(stripE blankB (stripF blankB Y.data.toList)).toArray⟩ : ByteArray) = X := by
            show (⟨(strip2 blankB Y.data.toList).toArray⟩ : ByteArray) = X
            rw [hX, ← hYl, strip2_congr blankB spaceB]
            intro c hc
            rw [hYl] at hc
            exact blank_space (List.all_eq_true.1 HA.out c (List.mem_of_mem_drop (List.mem_of_mem_take (List.mem_of_mem_drop hc))))
          have HS := Lib.hid (fun w : World => laws_shorn Y w hYs)
          rw [hYX] at HS
          have hel : e ≤ a0.size := by
            unfold labelOf at hlab
            split at hlab
            · rename_i e' he'
              have := labEnd_lt _ _ _ _ (Nat.le_refl _) he'
              split at hlab
              · cases hlab
              · injection hlab with hlab; subst hlab
                simp at this; omega
            · cases hlab
          rw [e1] at HL
          rw [e2] at HR
          clear e1 e2 hlab hts ht0 hb hX hY hYl hYs hYX
          go_enter Try.func9, Try.ntmps9
          go_wp2_with (first
            | (go_at_call 14; refine (HI.out _).mono ?_; rintro e w' ⟨rfl, rfl⟩)
            | (go_at_call 36; refine (HL.out _).mono ?_; rintro e w2 ⟨rfl, hb⟩; replace hbel := bel_next hbel hb (Nat.le_refl _); clear hb)
            | (go_at_call 37; refine (HR.out _).mono ?_; rintro e w2 ⟨rfl, hb⟩; replace hbel := bel_next hbel hb (Nat.le_refl _); clear hb)
            | (go_at_call 38; refine (HS.out _).mono ?_; rintro e w' ⟨rfl, rfl⟩))
          all_goals (go_ret; refine ⟨ret_bool ?_, hbel⟩; first | rfl | (simp; done) | (simp; omega) | (simp_all; done) | (simp_all; omega))
      · have hbb : ((a0[i].toNat : Int) != 91) = true := by simpa using hb
        go_enter Try.func9, Try.ntmps9
        go_wp2_with (go_at_call 14; refine (HI.out _).mono ?_; rintro e w' ⟨rfl, rfl⟩)
        all_goals (go_ret; exact ⟨rfl, Below.refl _ _⟩)
end Go.Proofs.Ytigeaoijcjidbaa
