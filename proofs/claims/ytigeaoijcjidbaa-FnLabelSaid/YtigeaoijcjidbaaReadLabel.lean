/- The reference's reading of a link label; the laws' word 'shorn'; the package's door to its reading. -/
import Derived.Test.YtigeaoijcjidbaaLabel
import Derived.Test.YtigeaoijcjidbaaBlk
import Derived.Test.YtigeaoijcjidbaaShelf
namespace Go.Proofs.Ytigeaoijcjidbaa
open Go.RowKit
theorem bel_of_drewN {B : Nat} {a w : World} (h : Below B a w) (n : Nat) : Below B a (w.drewN n) := ⟨h.os, h.tape, h.output, h.size, h.block⟩
/-- a backslash at the place escapes the next byte -/
def escB (s : ByteArray) (k : Nat) : Bool := atB (fun c => c == 92) s k && atB punctB s (k + 1)
theorem spec_escaped (s : ByteArray) (k : Nat) (w : World) (hs : s.size ≤ maxLen) (hk : k < s.size) :
    Calls Try.prog 64 #[.string s, .int .i64 k] w fun e w' => e = .returned (.bool (escB s k)) ∧ w = w' := by
  unfold maxLen at hs
  go_enter Try.func64, Try.ntmps64
  go_wp2_with (go_at_call 34; refine (spec_IsPunct _ _).mono ?_; rintro e w' ⟨rfl, rfl⟩)
  all_goals (go_ret; refine ⟨ret_bool ?_, rfl⟩; first | (simp [escB, atB, *]; done) | (simp_all [escB, atB]; done) | (simp_all [escB, atB]; omega))
/-- there is something else than blanks behind the first byte, ahead of the place -/
def filledB (l : List UInt8) (k : Nat) : Bool := !(strip2 spaceB ((l.take k).drop 1)).isEmpty
theorem filled_succ (s : ByteArray) (k : Nat) (h1 : 1 ≤ k) (hk : k < s.size) : filledB s.data.toList (k + 1) = (filledB s.data.toList k || !spaceB (s[k].toNat : Int)) := by
  have hp : (s.data.toList.take (k + 1)).drop 1 = (s.data.toList.take k).drop 1 ++ [s[k]] := by
    rw [take_snoc s k hk, List.drop_append_of_le_length (by simp; omega)]
  have e : ∀ m : List UInt8, (strip2 spaceB m).isEmpty = m.all fun c => spaceB (c.toNat : Int) := fun m => by
    rw [Bool.eq_iff_iff, List.isEmpty_iff, strip2_empty, List.all_eq_true]
  unfold filledB
  rw [hp, e, e, List.all_append]
  simp [Bool.not_and]
theorem filled_one (l : List UInt8) : filledB l 1 = false := by
  unfold filledB
  rw [show (l.take 1).drop 1 = [] from List.drop_eq_nil_of_le (by simp; omega)]; rfl
/-- what the reference's reading of a label gives -/
def readRes (t : ByteArray) : Value :=
  match labelOf t.data.toList with
  | some e => .tuple #[.string (t.extract 1 e), .int .i64 ((e : Int) + 1)]
  | none => .tuple #[.string ⟨#[]⟩, .int .i64 (-1)]
theorem readRes_none {t : ByteArray} (h : labEnd (t.data.toList.drop 1) 1 = none) : readRes t = .tuple #[.string ⟨#[]⟩, .int .i64 (-1)] := by
  have : labelOf t.data.toList = none := by unfold labelOf; rw [h]
  unfold readRes; rw [this]
theorem readRes_empty {t : ByteArray} {e : Nat} (h : labEnd (t.data.toList.drop 1) 1 = some e) (hf : filledB t.data.toList e = false) : readRes t = .tuple #[.string ⟨#[]⟩, .int .i64 (-1)] := by
  have : labelOf t.data.toList = none := by
    unfold labelOf; rw [h]
    unfold filledB at hf
    simp only [Bool.not_eq_false'] at hf
    simp only [hf, if_true]
  unfold readRes; rw [this]
theorem readRes_some {t : ByteArray} {e : Nat} (h : labEnd (t.data.toList.drop 1) 1 = some e) (hf : filledB t.data.toList e = true) : readRes t = .tuple #[.string (t.extract 1 e), .int .i64 ((e : Int) + 1)] := by
  have : labelOf t.data.toList = some e := by
    unfold labelOf; rw [h]
    unfold filledB at hf
    simp only [Bool.not_eq_true'] at hf
    simp only [hf, Bool.false_eq_true, if_false]
  unfold readRes; rw [this]
theorem linB_ascii {s : ByteArray} (ha : allB linB s.data.toList = true) (a b : Nat) : ∀ (j : Nat) c, (s.extract a b).data.toList[j]? = some c → c.toNat < 128 := by
  intro j c hj
  have hm : c ∈ s.data.toList := by
    have := List.mem_of_getElem? hj
    rw [Lib.extract_data] at this
    exact List.mem_of_mem_drop (List.mem_of_mem_take this)
  have := List.all_eq_true.1 ha c hm
  simp only [linB, Bool.or_eq_true, Bool.and_eq_true, beq_iff_eq, decide_eq_true_eq] at this
  omega
theorem blank_space {c : Int} (h : linB c = true) : blankB c = spaceB c := by
  simp only [linB, Bool.or_eq_true, Bool.and_eq_true, beq_iff_eq, decide_eq_true_eq] at h
  rw [Bool.eq_iff_iff]; simp [blankB, spaceB]; omega
theorem lab_next (t : ByteArray) (k : Nat) (hk : k < t.size) (he : escB t k = false) (h91 : ¬ (t[k].toNat : Int) = 91) (h93 : ¬ (t[k].toNat : Int) = 93) :
    labEnd (t.data.toList.drop k) k = labEnd (t.data.toList.drop (k + 1)) (k + 1) := by
  rw [drop_cons t k hk]
  by_cases h92 : (t[k].toNat : Int) = 92
  · by_cases h1 : k + 1 < t.size
    · rw [drop_cons t (k + 1) h1, labEnd_back _ _ _ (byte_eq (n := 92) h92 (by decide))]
      have hp : punctB (t[k + 1].toNat : Int) = false := by
        unfold escB at he
        rw [atB_of hk, atB_of h1, h92] at he
        simpa using he
      have hq : ¬ ((t[k + 1].toNat : Int) = 93) ∧ ¬ ((t[k + 1].toNat : Int) = 91) ∧ ¬ ((t[k + 1].toNat : Int) = 92) := by
        refine ⟨?_, ?_, ?_⟩ <;> intro h <;> rw [h] at hp <;> simp [punctB] at hp
      rw [labEnd_other _ _ (byte_ne (n := 93) hq.1 (by decide)) (byte_ne (n := 91) hq.2.1 (by decide)) (byte_ne (n := 92) hq.2.2 (by decide))]
    · rw [List.drop_eq_nil_of_le (by simp; omega), labEnd_last _ (byte_eq (n := 92) h92 (by decide))]; rfl
  · rw [labEnd_other _ _ (byte_ne (n := 93) h93 (by decide)) (byte_ne (n := 91) h91 (by decide)) (byte_ne (n := 92) h92 (by decide))]
def SomeRead (w : World) (v : Value) (e : Ending) (w' : World) : Prop := e = .returned v ∧ Below w.heap.size w w'
set_option maxHeartbeats 2000000 in
theorem spec_ReadLabel (t : ByteArray) (w : World) (hs : t.size ≤ 900) (h0 : 0 < t.size) (hb : (t[0].toNat : Int) = 91) (ha : allB linB t.data.toList = true) :
    Calls Try.prog 37 #[.string t] w (SomeRead w (readRes t)) := by
  obtain ⟨V, hV⟩ : ∃ V, V = readRes t := ⟨_, rfl⟩
  have HV := Lib.hid hV; rw [← hV]; clear hV
  have HA := Lib.hid ha; clear ha
  have hz : ((t.size : Int) == 0) = false := beq_eq_false_iff_ne.2 (by omega)
  go_enter Try.func37, Try.ntmps37
  go_wp2_with (fail)
  go_loopg [4, 5] (t.size - 1) (fun g f j wx => ∃ (k : Nat) (b : Bool), 1 ≤ k ∧ k + g = t.size ∧ j = .int .i64 k ∧ f = .bool b ∧ Hid (b = filledB t.data.toList k) ∧ Hid (labEnd (t.data.toList.drop k) k = labEnd (t.data.toList.drop 1) 1) ∧ w = wx)
  case atStart => exact ⟨1, false, by omega, by omega, rfl, rfl, Lib.hid (filled_one _).symm, Lib.hid rfl, rfl⟩
  case round =>
    obtain ⟨k, b, hk, hkg, rfl, rfl, HF, HR, rfl⟩ := hrel
    by_cases hlt : k < t.size
    · have HD := Lib.hid (drop_cons t k hlt)
      have HFS := Lib.hid (filled_succ t k hk hlt)
      have HL := Lib.hid (allB_get linB t HA.out k hlt)
      have HB := Lib.hid (blank_space HL.out)
      have HEs := Lib.hid (fun w : World => spec_escaped t k w (by unfold maxLen; omega) hlt)
      cases hE : escB t k with
      | true =>
        have hE2 := hE
        simp only [escB, Bool.and_eq_true] at hE2
        have h92 : (t[k].toNat : Int) = 92 := by have := hE2.1; rw [atB_of hlt] at this; simpa using this
        have hlt1 := atB_lt hE2.2
        have hp : punctB (t[k + 1].toNat : Int) = true := by rw [← atB_of (p := punctB) hlt1]; exact hE2.2
        rw [hE] at HEs
        have hR : labEnd (t.data.toList.drop (k + 2)) (k + 2) = labEnd (t.data.toList.drop 1) 1 := by
          rw [← HR.out, HD.out, drop_cons t (k + 1) hlt1, labEnd_back _ _ _ (byte_eq (n := 92) h92 (by decide))]
        have hF : true = filledB t.data.toList (k + 2) := by
          rw [filled_succ t (k + 1) (by omega) hlt1, HFS.out, h92]; simp [spaceB]
        have HR2 := Lib.hid hR
        have HF2 := Lib.hid hF
        clear hR hF hE hE2 hp h92
        go_wp2_with (go_at_call 64; refine (HEs.out _).mono ?_; rintro e w' ⟨rfl, rfl⟩)
        go_roundg (gk - 2)
        case measure => omega
        case rel => exact ⟨k + 2, true, by omega, by omega, by go_num, rfl, HF2, HR2, rfl⟩
      | false =>
        rw [hE] at HEs
        have HE := Lib.hid hE; clear hE
        by_cases h91 : (t[k].toNat : Int) = 91
        · have HN := Lib.hid (show labEnd (t.data.toList.drop 1) 1 = none by rw [← HR.out, HD.out, labEnd_open _ _ (byte_eq (n := 91) h91 (by decide))])
          go_wp2_with (go_at_call 64; refine (HEs.out _).mono ?_; rintro e w' ⟨rfl, rfl⟩)
          go_ret2
          exact ⟨congrArg Ending.returned (HV.out.trans (readRes_none HN.out)).symm, Below.refl _ _⟩
        · by_cases h93 : (t[k].toNat : Int) = 93
          · have HN := Lib.hid (show labEnd (t.data.toList.drop 1) 1 = some k by rw [← HR.out, HD.out, labEnd_close _ _ (byte_eq (n := 93) h93 (by decide))])
            have HC := Lib.hid (fun w : World => Try.utf8_RuneCountInString_ascii (t.extract 1 k) w (by rw [ByteArray.size_extract]; omega) (linB_ascii HA.out 1 k))
            have hz1 : (t.extract 1 k).size ≤ 900 := by rw [ByteArray.size_extract]; omega
            cases b with
            | false =>
              go_wp2_with (go_at_call 64; refine (HEs.out _).mono ?_; rintro e w' ⟨rfl, rfl⟩)
              go_ret2
              exact ⟨congrArg Ending.returned (HV.out.trans (readRes_empty HN.out HF.out.symm)).symm, Below.refl _ _⟩
            | true =>
              go_wp2_with (first
                | (go_at_call 64; refine (HEs.out _).mono ?_; rintro e w' ⟨rfl, rfl⟩)
                | (go_at_call 65; refine (HC.out _).mono ?_; rintro e w' ⟨rfl, rfl⟩))
              go_ret2
              exact ⟨congrArg Ending.returned (HV.out.trans (readRes_some HN.out HF.out.symm)).symm, (Below.refl _ _).alloc (Nat.le_refl _) _⟩
          · have HR2 := Lib.hid ((lab_next t k hlt HE.out h91 h93).symm.trans HR.out)
            cases b with
            | true =>
              go_wp2_with (first
                | (go_at_call 64; refine (HEs.out _).mono ?_; rintro e w' ⟨rfl, rfl⟩)
                | (go_at_call 15; refine (spec_IsBlank _ _).mono ?_; rintro e w' ⟨rfl, rfl⟩))
              go_roundg (gk - 1)
              case measure => omega
              case rel => exact ⟨k + 1, true, by omega, by omega, by go_num, rfl, Lib.hid (by rw [HFS.out, ← HF.out]; rfl), HR2, rfl⟩
            | false =>
              go_wp2_with (first
                | (go_at_call 64; refine (HEs.out _).mono ?_; rintro e w' ⟨rfl, rfl⟩)
                | (go_at_call 15; refine (spec_IsBlank _ _).mono ?_; rintro e w' ⟨rfl, rfl⟩))
              go_roundg (gk - 1)
              case measure => omega
              case rel => exact ⟨k + 1, _, by omega, by omega, by go_num, rfl, Lib.hid (by rw [HFS.out, ← HF.out, HB.out]; rfl), HR2, rfl⟩
    · have HN := Lib.hid (show labEnd (t.data.toList.drop 1) 1 = none by rw [← HR.out, List.drop_eq_nil_of_le (by simp; omega)]; rfl)
      go_wp2_with (fail)
      go_ret2
      exact ⟨congrArg Ending.returned (HV.out.trans (readRes_none HN.out)).symm, Below.refl _ _⟩
end Go.Proofs.Ytigeaoijcjidbaa
