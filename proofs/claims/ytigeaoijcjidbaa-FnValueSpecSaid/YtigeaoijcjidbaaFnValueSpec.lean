/- FnValueSpec's walk: for every text and place it returns true and leaves memory below as it was. -/
import Derived.Test.YtigeaoijcjidbaaParseValue
import Derived.Test.YtigeaoijcjidbaaSkip
import Derived.Test.YtigeaoijcjidbaaSearch
import Derived.Test.YtigeaoijcjidbaaBlk
import Derived.Test.YtigeaoijcjidbaaTexts
namespace Go.Proofs.Ytigeaoijcjidbaa
open Go.RowKit
theorem valEnd_le {s : ByteArray} {i e : Nat} (h : valEnd s i = some e) : i ≤ e ∧ e ≤ s.size := by
  unfold valEnd at h
  split at h
  · rename_i hi
    split at h
    · unfold quoteEnd at h
      split at h
      · injection h with h
        have := le_scan (fun d => d != (s[i].toNat : Int)) s.data.toList (i + 1)
        omega
      · cases h
    · unfold plainEnd at h
      split at h
      · cases h
      · injection h with h
        have h1 := le_scan unqB s.data.toList i
        have h2 := scan_size unqB s i (by omega)
        omega
  · cases h
/-- it returned some three values: a text, a place, whether; if a value ends at e, the place is e and it is told -/
def Specced (s : ByteArray) (k : Nat) (B : Nat) (w : World) (e : Ending) (w' : World) : Prop :=
  (∃ (t : ByteArray) (n : Int) (b : Bool), e = .returned (.tuple #[.string t, .int .i64 n, .bool b]) ∧ (∀ m : Nat, valEnd s k = some m → n = m ∧ b = true)) ∧ Below B w w'
set_option maxHeartbeats 1000000 in
theorem md_parseAttrValueSpec (sb : Nat) (s : ByteArray) (i : Nat) (w : World) (hs : s.size ≤ 900) (hi : i < s.size) (hb : (s[i].toNat : Int) = 61) (hc : w.cell? ⟨sb, 6, none⟩ = some (.bool false)) (hf : w.frozen? ⟨sb, 6, none⟩ = false) :
    Calls Try.prog 90 #[.pointer (some ⟨sb, 0, none⟩), .string s, .int .i64 i] w (Specced s (scan spaceB s.data.toList (i + 1)) sb w) := by
  have hm : s.size ≤ maxLen := by unfold maxLen; omega
  have h1 : scan spaceB s.data.toList i = i := scan_stop spaceB s i hi (by rw [hb]; rfl)
  have HS1 := Lib.hid (fun w : World => md_skipSpace s i w hm (by omega))
  rw [h1] at HS1
  by_cases hi1 : i + 1 < s.size
  · have hle := scan_size spaceB s (i + 1) (by omega)
    have HS2 := Lib.hid (fun w : World => md_skipSpace s (i + 1) w hm (by omega))
    generalize scan spaceB s.data.toList (i + 1) = k at *
    have HV := Lib.hid (fun w : World => md_parseAttrValue s k w hs hle)
    cases hE : valEnd s k with
    | none =>
      rw [valueRes_none hE] at HV
      have HE := Lib.hid hE; clear hE h1
      go_enter Try.func90, Try.ntmps90
      go_wp2_with (fail)
      refine (HS1.out _).mono ?_
      rintro e w' ⟨rfl, rfl⟩
      go_wp2_with (fail)
      refine (HS2.out _).mono ?_
      rintro e w' ⟨rfl, rfl⟩
      go_wp2_with (go_at_call 101; refine (HV.out _).mono ?_; rintro e w' ⟨rfl, n, rfl⟩)
      go_ret3
      exact ⟨⟨_, _, _, rfl, fun m h => by rw [HE.out] at h; cases h⟩, ⟨rfl, rfl, rfl, Nat.le_refl _, fun _ _ => rfl⟩⟩
    | some e =>
      rw [valueRes_some hE] at HV
      have HE := Lib.hid hE; clear hE h1
      obtain ⟨hke, hes⟩ := valEnd_le HE.out
      have HC := Lib.hid (fun w : World => md_zzContains (s.extract k e) ⟨#[239, 191, 189]⟩ w (by
        rw [ByteArray.size_extract, show (⟨#[239, 191, 189]⟩ : ByteArray).size = 3 from rfl]; unfold maxLen; omega))
      go_enter Try.func90, Try.ntmps90
      go_wp2_with (fail)
      refine (HS1.out _).mono ?_
      rintro e w' ⟨rfl, rfl⟩
      go_wp2_with (fail)
      refine (HS2.out _).mono ?_
      rintro e w' ⟨rfl, rfl⟩
      go_wp2_with (first
        | (go_at_call 101; refine (HV.out _).mono ?_; rintro e w' ⟨rfl, n, rfl⟩)
        | (go_at_call 102; refine (HC.out _).mono ?_; rintro e w' ⟨rfl, rfl⟩))
      go_ret3
      refine ⟨⟨_, _, _, rfl, fun m h => ?_⟩, ?_⟩
      · rw [HE.out] at h; injection h with h; subst h; exact ⟨rfl, rfl⟩
      · first
          | exact bel_drews ((Below.refl _ _).setCell (p := ⟨sb, 6, none⟩) (Nat.le_refl _) _) _
          | exact (bel_drews (Below.refl _ _) _).setCell (p := ⟨sb, 6, none⟩) (Nat.le_refl _) _
  · have HE := Lib.hid (show valEnd s (scan spaceB s.data.toList (i + 1)) = none by
      rw [scan_end spaceB s (i + 1) (by omega)]; unfold valEnd; rw [dif_neg hi1])
    clear h1
    go_enter Try.func90, Try.ntmps90
    go_wp2_with (fail)
    refine (HS1.out _).mono ?_
    rintro e w' ⟨rfl, rfl⟩
    go_wp2_with (fail)
    go_ret3
    exact ⟨⟨_, _, _, rfl, fun m h => by rw [HE.out] at h; cases h⟩, Below.refl _ _⟩
theorem md_ZZAttrValueSpec (s : ByteArray) (i : Nat) (w : World) (hs : s.size ≤ 900) (hi : i < s.size) (hb : (s[i].toNat : Int) = 61) :
    Calls Try.prog 66 #[.string s, .int .i64 i] w (Specced s (scan spaceB s.data.toList (i + 1)) w.heap.size w) := by
  have H := Lib.hid (fun (sb : Nat) (w : World) => md_parseAttrValueSpec sb s i w hs hi hb)
  clear hb
  go_enter Try.func66, Try.ntmps66
  go_wp2_with (first
    | (go_at_call 89; refine (md_zzState _).mono ?_; rintro e w1 ⟨sb, rfl, hsb1, hsb2, hc6, hf6, hbel⟩)
    | (go_at_call 90; refine (H.out _ _ hc6 hf6).mono ?_; rintro e w' ⟨⟨t, n, b, rfl, hv⟩, hb2⟩))
  go_ret3
  exact ⟨⟨t, n, b, rfl, hv⟩, hbel.trans (hb2.mono hsb1)⟩
theorem impl_AttrValueSpec (s : ByteArray) (i : Nat) (w : World) (hs : s.size ≤ 900) (hi : i < s.size) (hb : (s[i].toNat : Int) = 61) :
    Calls Try.prog 39 #[.string s, .int .i64 i] w (Specced s (scan spaceB s.data.toList (i + 1)) w.heap.size w) := by
  have H := Lib.hid (fun (w : World) => md_ZZAttrValueSpec s i w hs hi hb)
  clear hb
  go_enter Try.func39, Try.ntmps39
  go_wp2_with (go_at_call 66; refine (H.out _).mono ?_; rintro e w' ⟨⟨t, n, b, rfl, hv⟩, hb2⟩)
  go_ret3
  exact ⟨⟨t, n, b, rfl, hv⟩, hb2⟩
theorem spec_AttributeValue (s : ByteArray) (i : Nat) (w : World) (hs : s.size ≤ 900) (hi : i ≤ s.size) (ha : allB linB s.data.toList = true) :
    Calls Try.prog 40 #[.string s, .int .i64 i] w fun e w' => e = .returned (.int .i64 (idxInt (valEnd s i))) ∧ Below w.heap.size w w' := by
  have H := Lib.hid (fun (w : World) => spec_attrValue s i w hs hi ha)
  generalize idxInt (valEnd s i) = v at *
  clear ha
  go_enter Try.func40, Try.ntmps40
  go_wp2_with (go_at_call 67; refine (H.out _).mono ?_; rintro e w' ⟨rfl, hb2⟩)
  go_ret
  exact ⟨rfl, hb2⟩
theorem bel_after {B : Nat} {w a b : World} (h : Below B w a) (k : Below a.heap.size a b) (hB : B ≤ w.heap.size) : Below B w b := h.trans (k.mono (Nat.le_trans hB h.size))
set_option maxHeartbeats 1000000 in
theorem walkFnValueSpec (a0 : ByteArray) (a1 : Int) (w : World) (w0 : a0.size ≤ maxLen) (_w1 : (Lit.int .i64 a1).wf = true) : Calls Try.prog 10 #[.string a0, .int .i64 a1] w fun e w' => e = .returned (.bool true) ∧ Below w.heap.size w w' := by
  have hs : a0.size ≤ 9223372036854775807 := w0
  have HI := Lib.hid (fun w : World => laws_inside a0 a1 300 w w0)
  cases hin : insideB a0 a1 300 with
  | false =>
    rw [hin] at HI
    go_enter Try.func10, Try.ntmps10
    go_wp2_with (go_at_call 14; refine (HI.out _).mono ?_; rintro e w' ⟨rfl, rfl⟩)
    all_goals (go_ret; exact ⟨rfl, Below.refl _ _⟩)
  | true =>
    rw [hin] at HI
    obtain ⟨h0, h1, h2, h3⟩ := insideB_iff hin
    have HA := Lib.hid h3
    clear h3 hin
    obtain ⟨i, rfl⟩ := Int.eq_ofNat_of_zero_le h0
    clear h0
    by_cases hl : i = a0.size
    · subst hl
      go_enter Try.func10, Try.ntmps10
      go_wp2_with (go_at_call 14; refine (HI.out _).mono ?_; rintro e w' ⟨rfl, rfl⟩)
      all_goals (go_ret; exact ⟨rfl, Below.refl _ _⟩)
    · have hlt : i < a0.size := by omega
      have hne : ((i : Int) == (a0.size : Int)) = false := beq_eq_false_iff_ne.2 (by omega)
      clear hl
      by_cases hb : (a0[i].toNat : Int) = 61
      · have HV := Lib.hid (fun w : World => impl_AttrValueSpec a0 i w (by omega) hlt hb)
        have HW := Lib.hid (fun w : World => laws_white a0 (i + 1) w w0 (by omega) HA.out)
        have hle := scan_size spaceB a0 (i + 1) (by omega)
        generalize scan spaceB a0.data.toList (i + 1) = k at *
        have HS := Lib.hid (fun w : World => spec_AttributeValue a0 k w (by omega) hle HA.out)
        have hbel : Below w.heap.size w w := Below.refl _ _
        have hbb : ((a0[i].toNat : Int) != 61) = false := by simp [hb]
        clear hb
        cases hE : valEnd a0 k with
        | none =>
          rw [hE] at HS
          change Hid (∀ w : World, Calls _ _ _ _ fun e w' => e = .returned (.int .i64 (-1)) ∧ Below w.heap.size w w') at HS
          clear hE
          go_enter Try.func10, Try.ntmps10
          go_wp2_with (first
            | (go_at_call 14; refine (HI.out _).mono ?_; rintro e w' ⟨rfl, rfl⟩)
            | (go_at_call 39; refine (HV.out _).mono ?_; rintro e w2 ⟨⟨t, n, b, rfl, hv⟩, hb2⟩; replace hbel := bel_after hbel hb2 (Nat.le_refl _); clear hb2 hv)
            | (go_at_call 41; refine (HW.out _).mono ?_; rintro e w' ⟨rfl, rfl⟩)
            | (go_at_call 40; refine (HS.out _).mono ?_; rintro e w2 ⟨rfl, hb2⟩; replace hbel := bel_after hbel hb2 (Nat.le_refl _); clear hb2))
          go_ret
          exact ⟨rfl, hbel⟩
        | some e =>
          rw [hE] at HS
          change Hid (∀ w : World, Calls _ _ _ _ fun e' w' => e' = .returned (.int .i64 (e : Int)) ∧ Below w.heap.size w w') at HS
          have HE := Lib.hid hE
          clear hE
          go_enter Try.func10, Try.ntmps10
          go_wp2_with (first
            | (go_at_call 14; refine (HI.out _).mono ?_; rintro e w' ⟨rfl, rfl⟩)
            | (go_at_call 39; refine (HV.out _).mono ?_; rintro e w2 ⟨⟨t, n, b, rfl, hv⟩, hb2⟩; replace hbel := bel_after hbel hb2 (Nat.le_refl _); obtain ⟨rfl, rfl⟩ := hv _ HE.out; clear hb2 hv)
            | (go_at_call 41; refine (HW.out _).mono ?_; rintro e w' ⟨rfl, rfl⟩)
            | (go_at_call 40; refine (HS.out _).mono ?_; rintro e w2 ⟨rfl, hb2⟩; replace hbel := bel_after hbel hb2 (Nat.le_refl _); clear hb2))
          all_goals first
            | (go_ret; exact ⟨rfl, hbel⟩)
            | (go_ret; refine ⟨ret_bool ?_, hbel⟩; go_light; first | (simp; done) | (simp_all; done))
      · have hbb : ((a0[i].toNat : Int) != 61) = true := by simpa using hb
        go_enter Try.func10, Try.ntmps10
        go_wp2_with (go_at_call 14; refine (HI.out _).mono ?_; rintro e w' ⟨rfl, rfl⟩)
        all_goals (go_ret; exact ⟨rfl, Below.refl _ _⟩)
end Go.Proofs.Ytigeaoijcjidbaa
