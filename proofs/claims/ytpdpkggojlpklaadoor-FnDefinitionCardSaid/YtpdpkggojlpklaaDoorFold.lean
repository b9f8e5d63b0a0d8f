/- Labels of letters and digits, in small letters: the package's normalizeLabel and the reference's Fold. -/
import Derived.Test.YtpdpkggojlpklaaDoorTrims
import Derived.Test.YtpdpkggojlpklaaDoorUnesc
import Derived.Test.YtpdpkggojlpklaaDoorBuilder
import Derived.Test.YtpdpkggojlpklaaDoorLabelPlain
import Derived.Laws.Runes
import Derived.Deep.LoopGhost
namespace Go.Proofs.YtpdpkggojlpklaaDoor
open Go.RowKit
/-- a small letter for a capital one -/
def lowC (c : UInt8) : UInt8 := if 65 ≤ c.toNat ∧ c.toNat ≤ 90 then c + 32 else c
def lowL (l : List UInt8) : List UInt8 := l.map lowC
theorem lowC_yes {c : UInt8} (h1 : 65 ≤ c.toNat) (h2 : c.toNat ≤ 90) : ((lowC c).toNat : Int) = (c.toNat : Int) + 32 := by
  unfold lowC; rw [if_pos ⟨h1, h2⟩, UInt8.toNat_add]; show (((c.toNat + 32) % 256 : Nat) : Int) = _; omega
theorem lowC_no {c : UInt8} (h : ¬ (65 ≤ c.toNat ∧ c.toNat ≤ 90)) : lowC c = c := by unfold lowC; rw [if_neg h]
theorem lowL_append (l m : List UInt8) : lowL (l ++ m) = lowL l ++ lowL m := List.map_append
/-- of letters and digits alone -/
def AlnAll (s : ByteArray) : Prop := ∀ c ∈ s.data.toList, alnB (c.toNat : Int) = true
theorem AlnAll.get {s : ByteArray} (h : AlnAll s) (k : Nat) (hk : k < s.size) : alnB (s[k].toNat : Int) = true :=
  h _ (by rw [Array.mem_toList_iff]; exact Array.getElem_mem hk)
theorem AlnAll.no {s : ByteArray} (h : AlnAll s) {c : UInt8} (hc : alnB (c.toNat : Int) = false) : c ∉ s.data.toList := fun hm => by rw [h c hm] at hc; cases hc
theorem strip_aln {s : ByteArray} (h : AlnAll s) : strip2 spaceB s.data.toList = s.data.toList := by
  have hs : ∀ c ∈ s.data.toList, spaceB (c.toNat : Int) = false := fun c hc => by
    have := h c hc
    simp [alnB, letB, upB, loB, digB] at this
    simp [spaceB]; omega
  have h1 : stripF spaceB s.data.toList = s.data.toList := by
    cases hl : s.data.toList with
    | nil => rfl
    | cons c l => exact stripF_cons_no (hs c (by rw [hl]; simp))
  unfold strip2
  rw [h1]
  unfold stripE
  cases hl : s.data.toList.reverse with
  | nil => simpa using hl.symm
  | cons c l =>
    have hc : c ∈ s.data.toList := by rw [← List.mem_reverse, hl]; simp
    rw [List.dropWhile_cons, if_neg (by rw [hs c hc]; simp), ← hl, List.reverse_reverse]
theorem aln_bytes {c : Int} (h : alnB c = true) : (48 ≤ c ∧ c ≤ 57) ∨ (65 ≤ c ∧ c ≤ 90) ∨ (97 ≤ c ∧ c ≤ 122) := by
  simp [alnB, letB, upB, loB, digB] at h; omega
set_option maxHeartbeats 2000000 in
theorem md_normalizeLabel (s : ByteArray) (w : World) (hs : s.size ≤ 1000) (ha : AlnAll s) :
    Calls Tryd.prog 33 #[.string s] w fun e w' => e = .returned (.string ⟨(lowL s.data.toList).toArray⟩) ∧ Below w.heap.size w w' := by
  have c1 : (findSub (⟨#[91]⟩ : ByteArray).data.toList s.data.toList).isSome = false := by
    cases h : (findSub (⟨#[91]⟩ : ByteArray).data.toList s.data.toList).isSome with
    | false => rfl
    | true => exact absurd (findSub_one.1 h) (ha.no (by decide))
  have c2 : (findSub (⟨#[93]⟩ : ByteArray).data.toList s.data.toList).isSome = false := by
    cases h : (findSub (⟨#[93]⟩ : ByteArray).data.toList s.data.toList).isSome with
    | false => rfl
    | true => exact absurd (findSub_one.1 h) (ha.no (by decide))
  have HC := Lib.hid (fun (sub : ByteArray) (w : World) (h : sub.size = 1) => md_zzContains s sub w (by unfold maxLen; omega))
  have HT := md_trimSpaceTabNewline s w (by unfold maxLen; omega)
  rw [show stripE spaceB (stripF spaceB s.data.toList) = s.data.toList from strip_aln ha] at HT
  have HT := Lib.hid HT
  have hA := fun k hk => aln_bytes (ha.get k hk)
  have HA := Lib.hid hA
  have hsid : (⟨s.data.toList.toArray⟩ : ByteArray) = s := by apply ByteArray.ext; simp
  rw [hsid] at HT
  clear ha hA hsid
  go_enter Tryd.func33, Tryd.ntmps33
  go_wp2_with (first
    | (go_at_call 39; refine (HC.out _ _ rfl).mono ?_; rintro e w' ⟨rfl, rfl⟩; simp only [c1, c2])
    | (go_at_call 36; refine HT.out.mono ?_; rintro e w' ⟨rfl, rfl⟩))
  clear c1 c2 HC HT
  have hbn := Bld.new w
  have hw0 : Below w.heap.size w (w.alloc (.cells #[.pointer none, .slice none 0 0] 92)) := (Below.refl _ _).alloc (Nat.le_refl _) _
  go_loopg [4, 5, 6] s.size (fun g sp hi j wx => ∃ k : Nat, k + g = s.size ∧ sp = .bool false ∧ hi = .bool false ∧ j = .int .i64 k ∧ Bld w.heap.size w.heap.size (lowL (s.data.toList.take k)) wx ∧ Below w.heap.size w wx)
  case atStart => exact ⟨0, by omega, rfl, rfl, rfl, hbn, hw0⟩
  case round =>
    obtain ⟨k, hkg, rfl, rfl, rfl, hbl, hbel⟩ := hrel
    clear hbn hw0
    have hsz := hbel.size
    by_cases hk : k < s.size
    · have hst : lowL (s.data.toList.take (k + 1)) = lowL (s.data.toList.take k) ++ [lowC s[k]] := by
        rw [take_snoc s k hk, lowL_append]; rfl
      have HS := Lib.hid hst
      have hln : (lowL (s.data.toList.take k)).length ≤ 100000 := by unfold lowL; simp; omega
      have hr := HA.out k hk
      have e1 : ((s[k].toNat : Int) == 32) = false := beq_eq_false_iff_ne.2 (by omega)
      have e2 : ((s[k].toNat : Int) == 9) = false := beq_eq_false_iff_ne.2 (by omega)
      have e3 : ((s[k].toNat : Int) == 10) = false := beq_eq_false_iff_ne.2 (by omega)
      by_cases hup : 65 ≤ s[k].toNat ∧ s[k].toNat ≤ 90
      · obtain ⟨u1, u2⟩ := hup
        have u1' : 65 ≤ (s[k].toNat : Int) := by omega
        have u2' : (s[k].toNat : Int) ≤ 90 := by omega
        have H2 := bld_byteOf _ _ _ (lowC s[k]) _ (lowC_yes u1 u2).symm wr hbl hln hsz
        have HK : Hid ((s.data.toList[k]?.map fun c => (c.toNat : Int)) = some (s[k].toNat : Int)) := Lib.hid (by rw [List.getElem?_eq_getElem (by simpa using hk)]; rfl)
        clear hst hr u1 u2 hbl HK
        have H2 := Lib.hid H2
        go_upto_region 15 with (fail)
        clear e1 e2 e3
        generalize (s[k].toNat : Int) = n at *
        go_wp2_with (go_at_call 40; refine H2.out.mono ?_; rintro e w2 ⟨rfl, hb2, hl2⟩; replace hbel := hbel.trans hl2)
        go_roundg (s.size - (k + 1))
        case measure => omega
        case rel => exact ⟨k + 1, by omega, rfl, rfl, by go_num, HS.out ▸ hb2, hbel⟩
      · have H2 := Lib.hid (bld_byte _ _ _ s[k] wr hbl hln hsz)
        rw [lowC_no hup] at HS
        have hr2 : ¬ (65 ≤ (s[k].toNat : Int) ∧ (s[k].toNat : Int) ≤ 90) := by omega
        have hr3 : ¬ 128 ≤ (s[k].toNat : Int) := by omega
        clear hst hr hup hbl
        by_cases hup1 : 65 ≤ (s[k].toNat : Int)
        · have hup2 : ¬ (s[k].toNat : Int) ≤ 90 := fun h => hr2 ⟨hup1, h⟩
          clear hr2
          go_wp2_with (go_at_call 40; refine H2.out.mono ?_; rintro e w2 ⟨rfl, hb2, hl2⟩; replace hbel := hbel.trans hl2)
          go_roundg (s.size - (k + 1))
          case measure => omega
          case rel => exact ⟨k + 1, by omega, rfl, rfl, by go_num, HS.out ▸ hb2, hbel⟩
        · clear hr2
          go_wp2_with (go_at_call 40; refine H2.out.mono ?_; rintro e w2 ⟨rfl, hb2, hl2⟩; replace hbel := hbel.trans hl2)
          go_roundg (s.size - (k + 1))
          case measure => omega
          case rel => exact ⟨k + 1, by omega, rfl, rfl, by go_num, HS.out ▸ hb2, hbel⟩
    · have hE : s.data.toList.take k = s.data.toList := List.take_of_length_le (by simp; omega)
      rw [hE] at hbl
      have H1 := Lib.hid (bld_text _ _ _ wr hbl hsz)
      go_wp2_with (go_at_call 41; refine H1.out.mono ?_; rintro e w2 ⟨rfl, hl2⟩; replace hbel := hbel.trans hl2)
      go_ret
      exact ⟨rfl, hbel⟩
theorem decode_ascii (s : ByteArray) (w : World) (h0 : 0 < s.size) (h : (s[0].toNat : Int) < 128) :
    Calls Tryd.prog 15 #[.string s] w fun e w' => e = .returned (.tuple #[.int .i32 (s[0].toNat : Int), .int .i64 1]) ∧ w = w' := by
  have hne : s.toList.isEmpty = false := by rw [Lib.toList_data, toList_head s h0]; rfl
  have hne2 : ¬ s.toList = [] := by rw [Lib.toList_data, toList_head s h0]; simp
  go_enter Tryd.func15, Tryd.ntmps15
  go_wp2_with (fail)
  go_ret2
  exact ⟨rfl, rfl⟩
theorem encode_ascii (c : UInt8) (h : c.toNat < 128) : Utf8.encode (c.toNat : Int) = ⟨#[c]⟩ := by
  have hv : Utf8.valid (c.toNat : Int) = true := by
    simp [Utf8.valid]; omega
  unfold Utf8.encode
  simp only [hv, if_true, Int.toNat_natCast, if_pos h]
  simp
theorem folded_up (n : Int) (R : ByteArray) (w : World) (u1 : 65 ≤ n) (u2 : n ≤ 90) (HE : Hid (Utf8.encode (n + 32) = R)) :
    Calls Tryd.prog 17 #[.int .i32 n] w fun e w' => e = .returned (.string R) ∧ w = w' := by
  go_enter Tryd.func17, Tryd.ntmps17
  go_wp2_with (fail)
  go_ret
  exact ⟨ret_str HE.out, rfl⟩
theorem folded_low (n : Int) (R : ByteArray) (w : World) (u1 : n < 65) (HE : Hid (Utf8.encode n = R)) :
    Calls Tryd.prog 17 #[.int .i32 n] w fun e w' => e = .returned (.string R) ∧ w = w' := by
  go_enter Tryd.func17, Tryd.ntmps17
  go_wp2_with (fail)
  go_ret
  exact ⟨ret_str HE.out, rfl⟩
theorem folded_high (n : Int) (R : ByteArray) (w : World) (u1 : 90 < n) (HE : Hid (Utf8.encode n = R)) :
    Calls Tryd.prog 17 #[.int .i32 n] w fun e w' => e = .returned (.string R) ∧ w = w' := by
  go_enter Tryd.func17, Tryd.ntmps17
  go_wp2_with (fail)
  go_ret
  exact ⟨ret_str HE.out, rfl⟩
theorem spec_folded (c : UInt8) (w : World) (h : c.toNat < 128) :
    Calls Tryd.prog 17 #[.int .i32 (c.toNat : Int)] w fun e w' => e = .returned (.string ⟨#[lowC c]⟩) ∧ w = w' := by
  by_cases hup : 65 ≤ c.toNat ∧ c.toNat ≤ 90
  · have hy := lowC_yes hup.1 hup.2
    have HE := encode_ascii (lowC c) (by omega)
    rw [hy] at HE
    exact folded_up _ _ w (by omega) (by omega) (Lib.hid HE)
  · have HE := encode_ascii c h
    rw [← lowC_no hup] at HE
    rw [lowC_no hup] at HE
    rw [lowC_no hup]
    by_cases hup1 : 65 ≤ c.toNat
    · exact folded_high _ _ w (by omega) (Lib.hid HE)
    · exact folded_low _ _ w (by omega) (Lib.hid HE)
end Go.Proofs.YtpdpkggojlpklaaDoor
