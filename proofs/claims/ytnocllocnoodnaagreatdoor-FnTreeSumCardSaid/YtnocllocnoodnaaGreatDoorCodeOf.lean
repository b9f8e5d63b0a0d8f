/- The builder's code; lines behind a text. -/
import Derived.Test.YtnocllocnoodnaaGreatDoorLines
namespace Go.Proofs.YtnocllocnoodnaaGreatDoor
open Go.RowKit
/-- the call makes the lines of a block of code, and its text -/
def CodeMade (b n : Nat) (w : World) (e : Ending) (w' : World) : Prop := ∃ (nt : Nat) (tv : Value) (s : ByteArray), e = .returned (.tuple #[tv, .string s]) ∧ Texts w.heap.size nt 20 tv w' ∧ 0 < nt ∧ nt ≤ 3 ∧ (0 < s.size ∧ s.size ≤ 100) ∧ Bld b n w' ∧ w.grownBy w' (some b)
theorem texts_one {B L : Nat} {w : World} (s : ByteArray) (hs : s.size ≤ L) (hB : B ≤ w.heap.size) : Texts B 1 L (.slice (some ⟨w.heap.size, 0, none⟩) 1 1) (w.alloc (.cells #[.string s] 9)) :=
  ⟨[s], rfl, fun x hx => by rw [List.mem_singleton.1 hx]; exact hs, rfl, .inr ⟨w.heap.size, 1, #[.string s], rfl, hB, heap_alloc_new w _, Nat.le_refl _, by unfold maxLen; omega, rfl, rfl⟩⟩
set_option maxHeartbeats 4000000 in
set_option maxRecDepth 100000 in
theorem builder_code (b n : Nat) (w : World) (h : Bld b n w) : Calls Tryz.prog 27 #[.pointer (some ⟨b, 0, none⟩)] w (CodeMade b n w) := by
  obtain ⟨i0, hi, hz0, hz1, hz2⟩ := info_parts str_info
  have HN := Lib.hid (fun m w h hm hm2 => builder_next b n m w h hm hm2)
  have HW := Lib.hid (fun w h => builder_word b n w h)
  have HPD : Hid (∀ (k : Nat) (w : World), k ≤ 100 → Calls Tryz.prog 37 #[.int .i64 k] w (SizeTold k w)) := Lib.hid (fun k w hk => laws_Pad k w hk)
  have HJ := Lib.hid (fun n L a c ss bt w hl hrow hss hL hn hb => laws_joined n L a c ss bt w hl hrow hss hL hn hb)
  have hbl := h.lt
  have HB0 := Lib.hid h
  clear h
  unfold NextMade at HN
  unfold WordMade at HW
  unfold SizeTold at HPD HJ
  unfold CodeMade
  go_enter Tryz.func27, Tryz.ntmps27
  go_wp2_with (first
    | (go_at_call 12; refine (HN.out 3 _ (HB1.out.alloc (.cells #[.string r] 9)) (by decide) (by decide)).mono ?_; rintro e w2 ⟨m, hm3, rfl, hb2, hg2⟩; have HB2 := Lib.hid hb2; have HG2 := Lib.hid hg2; clear hb2 hg2)
    | (go_at_call 26; refine (HW.out _ HB0.out).mono ?_; rintro e w1 ⟨r, hr, rfl, hb1, hg1⟩; have hr1 := hr.2.2; have HB1 := Lib.hid hb1; have HG1 := Lib.hid hg1; clear hb1 hg1))
  have hw1 := HG1.out.size
  have HT2 := Lib.hid (texts_grown (texts_one r (Nat.le_trans hr1 (by decide : 10 ≤ 20)) hw1) (HB1.out.alloc _) HG2.out)
  have HF2 := Lib.hid (grown_trans (grown_alloc HG1.out (.cells #[.string r] 9)) HG2.out)
  go_loopg [4, 10] m (fun gg tv i wx => ∃ k, k + gg = m ∧ i = .int .i64 k ∧ Hid (Texts w.heap.size (k + 1) 20 tv wx) ∧ Hid (Bld b n wx) ∧ Hid (w.grownBy wx (some b)))
  case atStart => exact ⟨0, by omega, rfl, HT2, HB2, HF2⟩
  case round =>
    obtain ⟨k, hk, rfl, HT, HB, HF⟩ := hrel
    clear HT2 HF2 HB2 HG2 HB1 HG1 hw1 hr1 hr
    by_cases hlt : k < m
    · go_wp2_with (first
        | (go_at_call 37; refine (HPD.out _ _ (by omega)).mono ?_; rintro e w2p ⟨pd, hpd, rfl, rfl⟩)
        | (go_at_call 26; refine (HW.out _ HB1.out).mono ?_; rintro e w2 ⟨r, hr, rfl, hb2, hg2⟩; have hr1 := hr.2.2; have HT2 := Lib.hid (texts_grown HT1.out HB1.out hg2); have HF2 := Lib.hid (grown_trans HF1.out hg2); have HB2 := Lib.hid hb2; have hs2 := hg2.size; clear hb2 hg2; obtain ⟨ss, hss1, hss2, hss3⟩ := HT2.out; have HO := Lib.hid hss3; have HSS := Lib.hid hss2; clear hss3 hss2)
        | (go_at_call 12; refine (HN.out 3 _ HB.out (by decide) (by decide)).mono ?_; rintro e w1 ⟨p, hp3, rfl, hb1, hg1⟩; have HT1 := Lib.hid (texts_grown HT.out HB.out hg1); have HF1 := Lib.hid (grown_trans HF.out hg1); have HB1 := Lib.hid hb1; have hs1 := hg1.size; have hs0 := HF.out.size; clear hb1 hg1)
        | (at_builtin; refine wpList_append_lies _ rfl _ _ 39 rfl w.heap.size 9 i0 (.string ⟨#[]⟩) 1 16 Tryz.underlying39 hi hz0 hz1 hz2 rfl (by decide) _ _ _ rfl (HO.out.alloc _) ⟨w2.heap.size, 0, none⟩ 1 1 [.string (pd ++ r)] rfl rfl (World.news_of_block (heap_alloc_new w2 _)) (fun u hu => by rw [List.mem_singleton.1 hu]; rfl) (by decide) (by unfold maxLen; omega) (by omega) (by simp; omega) (w2.heap.size + 1) (by simp) ?_; intro g cap w4 hown hgrow hat hlt4))
      go_roundg (m - (k + 1))
      case measure => omega
      case rel => exact ⟨k + 1, by omega, by go_num, Lib.hid (texts_add hss1 HSS.out (by rw [ByteArray.size_append]; omega) hown rfl rfl), Lib.hid (bld_texts (HB2.out.alloc _) (texts_alloc HT2.out _) hgrow hbl), Lib.hid (grown_own (grown_alloc HF2.out _) hgrow (fun g hg => (HT2.out.own hg).2.1))⟩
    · have hkm : k = m := by omega
      subst hkm
      obtain ⟨g, c, ss, rfl, hsl, hss, hg1, hg2, hrow⟩ := texts_row HT.out (by omega)
      have HR := Lib.hid hrow
      have HSS := Lib.hid hss
      clear hrow hss
      go_wp2_with (go_at_call 9; refine (HJ.out _ 20 _ _ ss _ _ hsl HR.out HSS.out (by decide) (by omega) (by decide)).mono ?_; rintro e w2 ⟨r, hr, rfl, rfl⟩; have hr2 : r.size ≤ 90 := (by omega))
      have hz : (⟨#[10]⟩ : ByteArray).size = 1 := rfl
      exact bodyPost_ret (v := .tuple #[.slice (some ⟨g, 0, none⟩) (k + 1) c, .string (r ++ ⟨#[10]⟩)]) (by simp [results, go_sem]) rfl ⟨k + 1, _, _, rfl, HT.out, by omega, by omega, by rw [ByteArray.size_append]; omega, HB.out, HF.out⟩
theorem not_empty {s : ByteArray} (h : ¬ s = ⟨#[]⟩) : s.toList.isEmpty = false := by
  cases hh : s.toList.isEmpty with
  | false => rfl
  | true =>
    rw [Lib.toList_data, List.isEmpty_iff] at hh
    exact absurd (ByteArray.ext (by simpa using hh)) h
/-- the lines, each behind the text -/
def IndMade (q L : Nat) (w : World) (e : Ending) (w' : World) : Prop := ∃ o, e = .returned o ∧ Texts w.heap.size q L o w' ∧ (q = 0 → o = .slice none 0 0) ∧ Below w.heap.size w w'
set_option maxHeartbeats 4000000 in
set_option maxRecDepth 100000 in
theorem laws_indented (pad : ByteArray) (ss : List ByteArray) (L g off q c : Nat) (w : World) (hrow : RowAt 9 g (ss.map Value.string) w) (hss : ∀ s ∈ ss, s.size ≤ L) (hq : off + q ≤ ss.length) (hq2 : q ≤ 100000) (hL : L ≤ 1000) (hp : pad.size ≤ 1000) :
    Calls Tryz.prog 39 #[.string pad, .slice (some ⟨g, off, none⟩) q c] w (IndMade q (pad.size + L) w) := by
  obtain ⟨i0, hi, hz0, hz1, hz2⟩ := info_parts str_info
  have HR := Lib.hid (fun k (hk : k < q) wx (hb : Below w.heap.size w wx) => (show wx.cell? ⟨g, off + k, none⟩ = some (.string (ss[off + k]'(by omega))) by have := (hrow.below hrow.lt hb).cell (off + k) (by simp; omega); simpa using this))
  have HS := Lib.hid (fun k (hk : k < q) => hss (ss[off + k]'(by omega)) (List.getElem_mem _))
  clear hrow hss
  unfold IndMade
  go_enter Tryz.func39, Tryz.ntmps39
  go_wp2_with (fail)
  go_loopg [5, 10] q (fun gg tv i wx => ∃ k, k + gg = q ∧ i = .int .i64 k ∧ Hid (Texts w.heap.size k (pad.size + L) tv wx) ∧ (k = 0 → tv = .slice none 0 0) ∧ Hid (Below w.heap.size w wx))
  case atStart => exact ⟨0, by omega, rfl, Lib.hid (Texts.nil _ _ _), fun _ => rfl, Lib.hid (Below.refl _ _)⟩
  case round =>
    obtain ⟨k, hk, rfl, HT, hk0, HB⟩ := hrel
    by_cases hlt : k < q
    · have hcell := HR.out k hlt wr HB.out
      have hsz := HS.out k hlt
      generalize ss[off + k]'(by omega) = s at *
      obtain ⟨ts, hs1, hs2, hs3⟩ := HT.out
      have HO := Lib.hid hs3
      have HSS := Lib.hid hs2
      have hw := HB.out.size
      clear hs3 hs2
      by_cases h0 : s = ⟨#[]⟩
      · subst h0
        go_wp2_with (first
          | (at_builtin; refine wpList_append_lies _ rfl _ _ 39 rfl w.heap.size 9 i0 (.string ⟨#[]⟩) 1 16 Tryz.underlying39 hi hz0 hz1 hz2 rfl (by decide) _ _ _ rfl (HO.out.alloc _) ⟨wr.heap.size, 0, none⟩ 1 1 [.string ⟨#[]⟩] rfl rfl (World.news_of_block (heap_alloc_new wr _)) (fun u hu => by rw [List.mem_singleton.1 hu]; rfl) (by decide) (by unfold maxLen; omega) (by omega) (by simp; omega) (wr.heap.size + 1) (by simp) ?_; intro g2 cap w4 hown hgrow hat hlt4))
        go_roundg (q - (k + 1))
        case measure => omega
        case rel => exact ⟨k + 1, by omega, by go_num, Lib.hid (texts_add hs1 HSS.out (by show 0 ≤ _; omega) hown rfl rfl), by omega, Lib.hid ((HB.out.alloc hw _).grown hgrow (by simp; omega) (fun g hg => (HO.out.lt g hg).1))⟩
      · have hne : s.toList.isEmpty = false := not_empty h0
        go_wp2_with (first
          | (at_builtin; refine wpList_append_lies _ rfl _ _ 39 rfl w.heap.size 9 i0 (.string ⟨#[]⟩) 1 16 Tryz.underlying39 hi hz0 hz1 hz2 rfl (by decide) _ _ _ rfl (HO.out.alloc _) ⟨wr.heap.size, 0, none⟩ 1 1 [.string (pad ++ s)] rfl rfl (World.news_of_block (heap_alloc_new wr _)) (fun u hu => by rw [List.mem_singleton.1 hu]; rfl) (by decide) (by unfold maxLen; omega) (by omega) (by simp; omega) (wr.heap.size + 1) (by simp) ?_; intro g2 cap w4 hown hgrow hat hlt4))
        go_roundg (q - (k + 1))
        case measure => omega
        case rel => exact ⟨k + 1, by omega, by go_num, Lib.hid (texts_add hs1 HSS.out (by rw [ByteArray.size_append]; omega) hown rfl rfl), by omega, Lib.hid ((HB.out.alloc hw _).grown hgrow (by simp; omega) (fun g hg => (HO.out.lt g hg).1))⟩
    · have hkq : k = q := by omega
      subst hkq
      go_wp2_with (fail)
      go_ret
      exact ⟨_, rfl, HT.out, hk0, HB.out⟩
end Go.Proofs.YtnocllocnoodnaaGreatDoor
