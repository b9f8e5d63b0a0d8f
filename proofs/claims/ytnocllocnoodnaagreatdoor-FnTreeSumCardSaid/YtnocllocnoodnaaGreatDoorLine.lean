/- The builder's line. -/
import Derived.Test.YtnocllocnoodnaaGreatDoorWordPut
namespace Go.Proofs.YtnocllocnoodnaaGreatDoor
open Go.RowKit
/-- the call makes a line: a text, and its inlines -/
def LineMade (b n : Nat) (w : World) (e : Ending) (w' : World) : Prop := ∃ (s : ByteArray) (css : List (Array Value × Nat)) (o : Value), e = .returned (.tuple #[.string s, o]) ∧ s.size ≤ 100 ∧ Nodes InlP inlC w.heap.size css o w' ∧ 0 < css.length ∧ css.length ≤ 5 ∧ total css ≤ 60 ∧ Bld b n w' ∧ w.grownBy w' (some b)
theorem grown_alloc {b : Nat} {w w' : World} (h : w.grownBy w' (some b)) (o : Obj) : w.grownBy (w'.alloc o) (some b) :=
  ⟨h.os, h.tape, h.output, Nat.le_trans h.size (by simp), fun j hj hr => (heap_alloc_old w' o (by have := h.size; omega)).trans (h.block j hj hr)⟩
/-- .. behind a change of one's own row -/
theorem grown_own {b : Nat} {w w1 w2 : World} {o : Option Nat} (h : w.grownBy w1 (some b)) (g : w1.grownBy w2 o) (ho : ∀ g, o = some g → w.heap.size ≤ g) : w.grownBy w2 (some b) :=
  ⟨g.os.trans h.os, g.tape.trans h.tape, g.output.trans h.output, Nat.le_trans h.size g.size, fun j hj hr => (g.block j (Nat.lt_of_lt_of_le hj h.size) (fun hh => by have := ho j hh.symm; omega)).trans (h.block j hj hr)⟩
theorem nodes_grown {α : Type} {Q : Nat → Nat → α → World → Prop} (hS : SayN Q) {cl : α → List Value} {B b n : Nat} {css : List α} {o : Value} {w w' : World} (h : Nodes Q cl B css o w) (hb : Bld b n w) (hg : w.grownBy w' (some b)) : Nodes Q cl B css o w' :=
  h.keep hS (SameAll.grownT hg hb.typed (by decide)) hg.size
theorem nodes_alloc {α : Type} {Q : Nat → Nat → α → World → Prop} (hS : SayN Q) {cl : α → List Value} {B : Nat} {css : List α} {o : Value} {w : World} (h : Nodes Q cl B css o w) (ob : Obj) : Nodes Q cl B css o (w.alloc ob) :=
  h.keep hS (SameAll.alloc _ _ _ _) (by simp)
theorem row_grown {b n kb : Nat} {xs : List Value} {w w' : World} (h : RowAt 27 kb xs w) (hb : Bld b n w) (hg : w.grownBy w' (some b)) : RowAt 27 kb xs w' :=
  h.of ((SameAll.grownT (lo := 0) hg hb.typed (by decide)) kb (Nat.zero_le _) h.typed)
theorem range_row {e : TypeId} {kb : Nat} {xs : List Value} {w : World} (h : RowAt e kb xs w) : w.rangeAt kb 0 xs := by
  intro j v hv
  obtain ⟨hlt, he⟩ := List.getElem?_eq_some_iff.1 hv
  rw [Nat.zero_add, h.cell j hlt, he]
set_option maxHeartbeats 8000000 in
set_option maxRecDepth 100000 in
theorem builder_line (b n : Nat) (w : World) (h : Bld b n w) : Calls Tryz.prog 24 #[.pointer (some ⟨b, 0, none⟩)] w (LineMade b n w) := by
  have HN := Lib.hid (fun m w h hm hm2 => builder_next b n m w h hm hm2)
  have HW := Lib.hid (fun w h => builder_word b n w h)
  have HI10 := Lib.hid spc_info
  have hbl := h.lt
  have HB0 := Lib.hid h
  clear h
  unfold NextMade at HN
  unfold WordMade at HW
  unfold LineMade
  have HPP := Lib.hid (fun B css o w hm hB hl ht t hz => lput_plain B css o w hm hB hl ht t hz)
  have HPS := Lib.hid (fun B css o w hm hB hl ht t hz => lput_span B css o w hm hB hl ht t hz)
  have HPE := Lib.hid (fun B css o w hm hB hl ht t kb hz hk hkB hko => lput_emph B css o w hm hB hl ht t kb hz hk hkB hko)
  have HPG := Lib.hid (fun B css o w hm hB hl ht t kb hz hk hkB hko => lput_strong B css o w hm hB hl ht t kb hz hk hkB hko)
  have HPL := Lib.hid (fun B css o w hm hB hl ht u t kb hu hz hk hkB hko => lput_link B css o w hm hB hl ht u t kb hu hz hk hkB hko)
  unfold PutIn at HPP HPS HPE HPG HPL
  go_enter Tryz.func24, Tryz.ntmps24
  go_wp2_with (first
    | (go_at_call 12; refine (HN.out 3 _ (HB1.out.alloc (.cells (plainC r) 27)) (by decide) (by decide)).mono ?_; rintro e w2 ⟨m, hm3, rfl, hb2, hg2⟩; have HB2 := Lib.hid hb2; have HG2 := Lib.hid hg2; clear hb2 hg2)
    | (go_at_call 26; refine (HW.out _ HB0.out).mono ?_; rintro e w1 ⟨r, hr, rfl, hb1, hg1⟩; have hr1 := hr.2.2; have HB1 := Lib.hid hb1; have HG1 := Lib.hid hg1; clear hb1 hg1))
  have hw1 := HG1.out.size
  have HM2 := Lib.hid (nodes_grown inl_say (nodes_one r 10 hr1 hw1) (HB1.out.alloc _) HG2.out)
  have HF2 := Lib.hid (grown_trans (grown_alloc HG1.out (.cells (plainC r) 27)) HG2.out)
  go_loopg [4, 5, 16] m (fun gg s o i wx => ∃ k text css, k + gg = m ∧ i = .int .i64 k ∧ s = .string text ∧ text.size ≤ 10 + 30 * k ∧ Hid (Nodes InlP inlC w.heap.size css o wx) ∧ 0 < css.length ∧ css.length ≤ 1 + 2 * k ∧ total css ≤ 10 + 25 * k ∧ Hid (Bld b n wx) ∧ Hid (w.grownBy wx (some b)))
  case atStart => exact ⟨0, r, [(plainC r, 10)], by omega, rfl, rfl, by omega, HM2, by simp, by simp, by simp [total], HB2, HF2⟩
  case round =>
    obtain ⟨k, text, css, hk, rfl, rfl, hts, HM, hc0, hc1, htot, HB, HF⟩ := hrel
    clear HM2 HF2 HB2 HG2 HB1 HG1 hw1 hr1 hr
    by_cases hlt : k < m
    · have hk2 : k ≤ 1 := by omega
      go_wp2_with (first
        | (go_at_call 12; refine (HN.out 7 _ HB3.out (by decide) (by decide)).mono ?_; rintro e w4 ⟨kd, hkd, rfl, hb4, hg4⟩; have HM4 := Lib.hid (nodes_grown inl_say HM3.out HB3.out hg4); have HR4 := Lib.hid (row_grown HR3.out HB3.out hg4); have HF4 := Lib.hid (grown_trans HF3.out hg4); have hs4 := hg4.size; have HB4 := Lib.hid hb4; have HG4 := Lib.hid hg4; clear hb4 hg4)
        | (go_at_call 26; refine (HW.out _ HB4.out).mono ?_; rintro e w5 ⟨d, hd, rfl, hb5, hg5⟩; have hd2 := hd.2.2; have hud : ((⟨#[47]⟩ : ByteArray) ++ d).size ≤ 11 := (by rw [ByteArray.size_append]; show 1 + _ ≤ _; omega); have HM5 := Lib.hid (nodes_grown inl_say HM4.out HB4.out hg5); have HR5 := Lib.hid (row_grown HR4.out HB4.out hg5); have HF5 := Lib.hid (grown_trans HF4.out hg5); have hs5 := hg5.size; have HB5 := Lib.hid hb5; clear hb5 hg5 hd)
        | (go_at_call 26; refine (HW.out _ HB.out).mono ?_; rintro e w1 ⟨r, hr, rfl, hb1, hg1⟩; have hr1 := hr.2.2; have hus : ((⟨#[42]⟩ : ByteArray) ++ r).size ≤ 11 := (by rw [ByteArray.size_append]; show 1 + _ ≤ _; omega); have HM1 := Lib.hid (nodes_grown inl_say HM.out HB.out hg1); have HF1 := Lib.hid (grown_trans HF.out hg1); have hs0 := HF.out.size; have hs1 := hg1.size; have hA := nodes_alloc inl_say HM1.out (.cells (plainC r) 27); unfold plainC spcG at hA; have HA := Lib.hid hA; have HB1 := Lib.hid hb1; clear hb1 hg1 hr hA)
        | (go_at_call 36; first
          | ((with_reducible refine (HPL.out w.heap.size css3 o3 w5 HM5.out (by omega) (by omega) (by omega) ((⟨#[47]⟩ : ByteArray) ++ d) r w1.heap.size (by omega) (by omega) HR5.out (by omega) ho3n).mono ?_); rintro e w6 ⟨css6, o6, rfl, hm6, hl6, hp6, ht6, hg6, ho6⟩; have HF6 := Lib.hid (grown_own HF5.out hg6 (fun g hg => (HM5.out.1.lt g hg).1)); have HB6 := Lib.hid (HB5.out.grown hg6 (fun g hg => (HM5.out.1.lt g hg).1) hbl))
          | ((with_reducible refine (HPE.out w.heap.size css3 o3 w4 HM4.out (by omega) (by omega) (by omega) r w1.heap.size (by omega) HR4.out (by omega) ho3n).mono ?_); rintro e w6 ⟨css6, o6, rfl, hm6, hl6, hp6, ht6, hg6, ho6⟩; have HF6 := Lib.hid (grown_own HF4.out hg6 (fun g hg => (HM4.out.1.lt g hg).1)); have HB6 := Lib.hid (HB4.out.grown hg6 (fun g hg => (HM4.out.1.lt g hg).1) hbl))
          | ((with_reducible refine (HPG.out w.heap.size css3 o3 w4 HM4.out (by omega) (by omega) (by omega) r w1.heap.size (by omega) HR4.out (by omega) ho3n).mono ?_); rintro e w6 ⟨css6, o6, rfl, hm6, hl6, hp6, ht6, hg6, ho6⟩; have HF6 := Lib.hid (grown_own HF4.out hg6 (fun g hg => (HM4.out.1.lt g hg).1)); have HB6 := Lib.hid (HB4.out.grown hg6 (fun g hg => (HM4.out.1.lt g hg).1) hbl))
          | ((with_reducible refine (HPS.out w.heap.size css3 o3 w4 HM4.out (by omega) (by omega) (by omega) r (by omega)).mono ?_); rintro e w6 ⟨css6, o6, rfl, hm6, hl6, hp6, ht6, hg6, ho6⟩; have HF6 := Lib.hid (grown_own HF4.out hg6 (fun g hg => (HM4.out.1.lt g hg).1)); have HB6 := Lib.hid (HB4.out.grown hg6 (fun g hg => (HM4.out.1.lt g hg).1) hbl))
          | ((with_reducible refine (HPP.out w.heap.size css3 o3 w4 HM4.out (by omega) (by omega) (by omega) r (by omega)).mono ?_); rintro e w6 ⟨css6, o6, rfl, hm6, hl6, hp6, ht6, hg6, ho6⟩; have HF6 := Lib.hid (grown_own HF4.out hg6 (fun g hg => (HM4.out.1.lt g hg).1)); have HB6 := Lib.hid (HB4.out.grown hg6 (fun g hg => (HM4.out.1.lt g hg).1) hbl))
          | ((with_reducible refine (HPP.out w.heap.size css3 o3 w4 HM4.out (by omega) (by omega) (by omega) ((⟨#[42]⟩ : ByteArray) ++ r) (by omega)).mono ?_); rintro e w6 ⟨css6, o6, rfl, hm6, hl6, hp6, ht6, hg6, ho6⟩; have HF6 := Lib.hid (grown_own HF4.out hg6 (fun g hg => (HM4.out.1.lt g hg).1)); have HB6 := Lib.hid (HB4.out.grown hg6 (fun g hg => (HM4.out.1.lt g hg).1) hbl))
          | ((with_reducible refine (HPP.out w.heap.size css _ _ HA.out (by simp; omega) (by omega) (by omega) ⟨#[32]⟩ (by decide)).mono ?_); rintro e w3 ⟨css3, o3, rfl, hm3', hl3, hp3, ht3, hg3, ho3⟩; have hA := HA.out; have HF3 := Lib.hid (grown_own (grown_alloc HF1.out _) hg3 (fun g hg => (hA.1.lt g hg).1)); have HB3 := Lib.hid ((HB1.out.alloc _).grown hg3 (fun g hg => (hA.1.lt g hg).1) hbl); have HR3 := Lib.hid ((row_one (w := w1) r).of (hg3.block _ (by simp) (fun hh => by have := (HM1.out.1.lt _ hh.symm).2; omega))); have ho3n : ∀ g, o3.ownBlock = some g → g ≠ w1.heap.size := (fun g hg => by rcases ho3 g hg with h | h; (have := (HM1.out.1.lt g h).2; omega); (simp at h; omega)); have hs3 := hg3.size; simp at hs3; have ht3' : total css3 ≤ total css + 1 := ht3; have HM3 := Lib.hid hm3'; clear hm3' hg3 hA ho3))
        | (refine wpList_load_mid rfl 27 _ rfl w1.heap.size 0 rfl [.int .i64 20, .string r, .string ⟨#[]⟩, .int .i64 0, .string ⟨#[]⟩, .bool false, .slice none 0 0, .slice none 0 0, .int .i64 0, .int .i64 0] _ (range_row HR4.out) Tryz.underlying27 rfl HI10.out ?_))
      all_goals go_roundg (gk - 1)
      all_goals first
        | (exact (by omega : gk - 1 < gk))
        | (have z1 : (⟨#[32, 42]⟩ : ByteArray).size = 2 := rfl; have z2 : (⟨#[42]⟩ : ByteArray).size = 1 := rfl; have z3 : (⟨#[32, 42, 42]⟩ : ByteArray).size = 3 := rfl; have z4 : (⟨#[42, 42]⟩ : ByteArray).size = 2 := rfl; have z5 : (⟨#[32, 96]⟩ : ByteArray).size = 2 := rfl; have z6 : (⟨#[96]⟩ : ByteArray).size = 1 := rfl; have z7 : (⟨#[32, 91]⟩ : ByteArray).size = 2 := rfl; have z8 : (⟨#[93, 40]⟩ : ByteArray).size = 2 := rfl; have z9 : (⟨#[41]⟩ : ByteArray).size = 1 := rfl; have z10 : (⟨#[47]⟩ : ByteArray).size = 1 := rfl; have z11 : (⟨#[32, 92, 42]⟩ : ByteArray).size = 3 := rfl; have z12 : (⟨#[32]⟩ : ByteArray).size = 1 := rfl; exact ⟨k + 1, _, css6, by omega, by go_num, rfl, by simp only [ByteArray.size_append]; omega, Lib.hid hm6, hp6, by omega, by omega, HB6, HF6⟩)
    · have hkm : k = m := by omega
      subst hkm
      go_wp2_with (fail)
      exact bodyPost_ret (v := .tuple #[.string text, _]) (by simp [results, go_sem]) rfl ⟨text, css, _, rfl, by omega, HM.out, hc0, by omega, by omega, HB.out, HF.out⟩
end Go.Proofs.YtnocllocnoodnaaGreatDoor
