/- The builder's words. -/
import Derived.Test.YtnocllocnoodnaaGreatDoorBuilderOf
import Derived.Test.YtnocllocnoodnaaGreatDoorPrintCode
import Derived.Deep.RegionHeld3
import Derived.Test.YtnocllocnoodnaaGreatDoorLawPut
namespace Go.Proofs.YtnocllocnoodnaaGreatDoor
open Go.RowKit
theorem grown_trans {a b c : World} {r : Nat} (h : a.grownBy b (some r)) (k : b.grownBy c (some r)) : a.grownBy c (some r) :=
  ⟨k.os.trans h.os, k.tape.trans h.tape, k.output.trans h.output, Nat.le_trans h.size k.size, fun j hj hr => (k.block j (Nat.lt_of_lt_of_le hj h.size) hr).trans (h.block j hj hr)⟩
theorem grown_drew {a b : World} {r : Nat} (h : a.grownBy b (some r)) : a.grownBy b.drew (some r) := ⟨h.os, h.tape, h.output, h.size, h.block⟩
theorem drew_grown {a b : World} {r : Nat} (h : a.drew.grownBy b (some r)) : a.grownBy b (some r) := ⟨h.os, h.tape, h.output, h.size, h.block⟩
theorem Bld.drew {b n : Nat} {w : World} (h : Bld b n w) : Bld b n w.drew := h
def alphaW : ByteArray := ⟨#[97, 98, 99, 100, 101, 102, 103, 104, 105, 106, 107, 108, 109, 110, 111, 112, 113, 114, 115, 116, 117, 118, 119, 120, 121, 122]⟩
def onlyW : ByteArray := ⟨#[111, 110, 108, 121, 119, 111, 114, 100, 115]⟩
/-- a word: one to ten letters -/
def IsWord (r : ByteArray) : Prop := Letters r ∧ 1 ≤ r.size ∧ r.size ≤ 10
theorem letters_of {r : ByteArray} (h : r.data.toList.all (fun c => decide (97 ≤ c.toNat) && decide (c.toNat ≤ 122)) = true) : Letters r := by
  intro k hk
  have hk2 : k < r.data.toList.length := by simpa using hk
  have := List.all_eq_true.1 h (r.data.toList[k]) (List.getElem_mem hk2)
  rw [Bool.and_eq_true, decide_eq_true_eq, decide_eq_true_eq] at this
  exact this
theorem word_is (k j : Nat) (hk : k < 26) (hj : j < 4) : IsWord (alphaW.extract k (k + 1) ++ onlyW.extract 0 j) := by
  have h1 : ∀ k : Fin 26, ∀ j : Fin 4, (alphaW.extract k.val (k.val + 1) ++ onlyW.extract 0 j.val).data.toList.all (fun c => decide (97 ≤ c.toNat) && decide (c.toNat ≤ 122)) = true := by decide +kernel
  refine ⟨letters_of (h1 ⟨k, hk⟩ ⟨j, hj⟩), ?_, ?_⟩
  · rw [ByteArray.size_append, ByteArray.size_extract]; show 1 ≤ min (k + 1) 26 - k + _; omega
  · rw [ByteArray.size_append, ByteArray.size_extract, ByteArray.size_extract]; show min (k + 1) 26 - k + (min j 9 - 0) ≤ 10; omega
/-- the call tells a word -/
def WordMade (b n : Nat) (w : World) (e : Ending) (w' : World) : Prop := ∃ r : ByteArray, IsWord r ∧ e = .returned (.string r) ∧ Bld b n w' ∧ w.grownBy w' (some b)
set_option maxHeartbeats 4000000 in
theorem builder_word (b n : Nat) (w : World) (h : Bld b n w) : Calls Tryz.prog 26 #[.pointer (some ⟨b, 0, none⟩)] w (WordMade b n w) := by
  have H := Lib.hid (fun m w h hm hm2 => builder_next b n m w h hm hm2)
  have HW := Lib.hid (fun k j hk hj => word_is k j hk hj)
  have HB := Lib.hid h
  clear h
  unfold NextMade at H
  unfold WordMade
  unfold alphaW onlyW at HW
  go_enter Tryz.func26, Tryz.ntmps26
  go_wp2_with (go_at_call 12; refine (H.out 26 _ HB.out (by decide) (by decide)).mono ?_; rintro e w2 ⟨k, hk, rfl, hb2, hg2⟩; have HB2 := Lib.hid hb2; have HG2 := Lib.hid hg2; clear hb2 hg2; have i0 : (0 : Int) ≤ (k : Int) := (by omega); have i1 : (k : Int) ≤ (k : Int) + 1 := (by omega); have i2 : (k : Int) + 1 ≤ 26 := (by omega); have i3 : (0 : Int) ≤ (k : Int) + 1 := (by omega); have i4 : k + 1 ≤ 26 := (by omega); have i5 : IntKind.i64.wrap ((k : Int) + 1) = (k : Int) + 1 := (IntWalk.i64_in _ (by omega)))
  go_region_held3 (fun _ => True) (trivial) (first | (go_at_call 12; refine (H.out 4 _ HB2.out.drew (by decide) (by decide)).mono ?_; rintro e w3 ⟨j, hj, rfl, hb3, hg3⟩; have HB3 := Lib.hid hb3; have HG3 := Lib.hid hg3; clear hb3 hg3; have j0 : (0 : Int) ≤ (j : Int) := (by omega); have j1 : (j : Int) ≤ 9 := (by omega); have j2 : j ≤ 9 := (by omega); have j3 : ¬ 9223372036854775807 < 1 + j := (by omega)))
  all_goals go_wp2
  all_goals first | (exfalso; omega; done) | skip
  go_ret
  exact ⟨_, HW.out k j hk hj, rfl, HB3.out, grown_trans HG2.out (drew_grown HG3.out)⟩
end Go.Proofs.YtnocllocnoodnaaGreatDoor
namespace Go.Proofs.YtnocllocnoodnaaGreatDoor
open Go.RowKit
theorem Bld.typed {b n : Nat} {w : World} (h : Bld b n w) : Typed 38 b w := by
  obtain ⟨v, t, sz, dp, hb, _⟩ := h
  exact ⟨_, _, hb⟩
theorem Bld.lt {b n : Nat} {w : World} (h : Bld b n w) : b < w.heap.size := h.typed.lt
theorem Bld.keep {b n : Nat} {w w' : World} (h : Bld b n w) (hk : ∀ j, j ≤ b → w'.heap[j]? = w.heap[j]?) : Bld b n w' := by
  obtain ⟨v, t, sz, dp, hb, ht, ao, c, rfl, hn, hbs⟩ := h
  refine ⟨_, t, sz, dp, (hk b (Nat.le_refl _)).trans hb, ht, ao, c, rfl, hn, ?_⟩
  intro k hkn
  obtain ⟨ad, x, h1, h2, h3, h4⟩ := hbs k hkn
  exact ⟨ad, x, h1, h2, h3, (World.cell?_of_block (a := ad.add k) (hk _ (by rw [add_block]; omega))).trans h4⟩
theorem Bld.alloc {b n : Nat} {w : World} (h : Bld b n w) (o : Obj) : Bld b n (w.alloc o) := h.keep fun j hj => heap_alloc_old w o (by have := h.lt; omega)
/-- what is below the own block stays -/
theorem Bld.grown {b n B : Nat} {w w' : World} {r : Option Nat} (h : Bld b n w) (hg : w.grownBy w' r) (hr : ∀ g, r = some g → B ≤ g) (hB : b < B) : Bld b n w' :=
  h.keep fun j hj => hg.block j (by have := h.lt; omega) (by intro hh; have := hr j hh.symm; omega)
theorem nodes_one {B : Nat} {w : World} (t : ByteArray) (z : Nat) (hz : t.size ≤ z) (hB : B ≤ w.heap.size) : Nodes InlP inlC B [(plainC t, z)] (.slice (some ⟨w.heap.size, 0, none⟩) 1 1) (w.alloc (.cells (plainC t) 27)) := by
  refine ⟨⟨rfl, .inr ⟨w.heap.size, 1, plainC t, rfl, hB, heap_alloc_new w _, Nat.le_refl _, by unfold maxLen; omega, rfl, rfl⟩⟩, ?_⟩
  intro c hc
  rw [List.mem_singleton] at hc
  subst hc
  exact ⟨B, B, Nat.le_refl _, by simp; omega, .inl ⟨t, hz, rfl⟩, fun g h => by cases h; exact .inr hB⟩
theorem row_one {w : World} (t : ByteArray) : RowAt 27 w.heap.size (plainC t).toList (w.alloc (.cells (plainC t) 27)) := ⟨plainC t, heap_alloc_new w _, rfl⟩
theorem escK_len (t : ByteArray) : (escP htmlK htmlE t.data.toList).length ≤ 6 * t.size := by
  have := escP_len (K := htmlK) (E := htmlE) (n := 6) (by omega) (fun c _ => htmlE_len c) t.data.toList
  simpa using this
theorem escL_len (t : ByteArray) : (escP linkK linkE t.data.toList).length ≤ 5 * t.size := by
  have := escP_len (K := linkK) (E := linkE) (n := 5) (by omega) (fun c _ => linkE_len c) t.data.toList
  simpa using this
section
variable (B : Nat) (css : List (Array Value × Nat)) (o : Value) (w : World) (hm : Nodes InlP inlC B css o w) (hB : B ≤ w.heap.size) (hl : css.length ≤ 100) (ht : total css ≤ 10000)
include hm hB hl ht
theorem lput_plain (t : ByteArray) (hz : t.size ≤ 1000) : Calls Tryz.prog 36 #[o, .agg #[.int .i64 20, .string t, .string ⟨#[]⟩, .int .i64 0, .string ⟨#[]⟩, .bool false, .slice none 0 0, .slice none 0 0, .int .i64 0, .int .i64 0]] w (PutIn B css t.size o w) :=
  laws_put B css o (plainC t, t.size) B B w hm (.inl ⟨t, Nat.le_refl _, rfl⟩) (Nat.le_refl _) hB (fun g h => .inr (hm.1.lt g h).1) hB (by omega) (by simp only; omega)
theorem lput_soft : Calls Tryz.prog 36 #[o, .agg #[.int .i64 21, .string ⟨#[]⟩, .string ⟨#[]⟩, .int .i64 0, .string ⟨#[]⟩, .bool false, .slice none 0 0, .slice none 0 0, .int .i64 0, .int .i64 0]] w (PutIn B css 0 o w) :=
  laws_put B css o (spcG 21 ⟨#[]⟩ ⟨#[]⟩ 0 ⟨#[]⟩ false (.slice none 0 0) 0 0, 0) B B w hm (.inr ⟨_, _, _, _, _, _, _, _, _, rfl, rfl, .inl rfl, [10], by simp, gives_soft _ _ _⟩) (Nat.le_refl _) hB (fun g h => .inr (hm.1.lt g h).1) hB (by omega) (by simp only; omega)
theorem lput_span (t : ByteArray) (hz : t.size ≤ 1000) : Calls Tryz.prog 36 #[o, .agg #[.int .i64 23, .string t, .string ⟨#[]⟩, .int .i64 0, .string ⟨#[]⟩, .bool false, .slice none 0 0, .slice none 0 0, .int .i64 0, .int .i64 0]] w (PutIn B css t.size o w) :=
  laws_put B css o (spcG 23 t ⟨#[]⟩ 0 ⟨#[]⟩ false (.slice none 0 0) 0 0, t.size) B B w hm (.inr ⟨_, _, _, _, _, _, _, _, _, rfl, rfl, .inl rfl, codeH t, by have := escK_len t; simp [codeH]; omega, gives_span t _ _ _ hz⟩) (Nat.le_refl _) hB (fun g h => .inr (hm.1.lt g h).1) hB (by omega) (by simp only; omega)
theorem lput_emph (t : ByteArray) (kb : Nat) (hz : t.size ≤ 1000) (hk : RowAt 27 kb (plainC t).toList w) (hkB : B ≤ kb) (hko : ∀ g, o.ownBlock = some g → g ≠ kb) : Calls Tryz.prog 36 #[o, .agg #[.int .i64 24, .string ⟨#[]⟩, .string ⟨#[]⟩, .int .i64 0, .string ⟨#[]⟩, .bool false, .slice none 0 0, .slice (some ⟨kb, 0, none⟩) 1 1, .int .i64 0, .int .i64 0]] w (PutIn B css t.size o w) :=
  laws_put B css o (spcG 24 ⟨#[]⟩ ⟨#[]⟩ 0 ⟨#[]⟩ false (.slice (some ⟨kb, 0, none⟩) 1 1) 0 0, t.size) kb (kb + 1) w hm (.inr ⟨_, _, _, _, _, _, _, _, _, rfl, rfl, .inr ⟨_, _, _, rfl⟩, _, by have := escK_len t; simp [sumT]; omega, gives_emph t _ _ _ _ ⟨kb, 1, rfl, Nat.le_refl _, Nat.lt_succ_self _, hk⟩ hz⟩) hkB hk.lt (fun g h => by have := hko g h; omega) hB (by omega) (by simp only; omega)
theorem lput_strong (t : ByteArray) (kb : Nat) (hz : t.size ≤ 1000) (hk : RowAt 27 kb (plainC t).toList w) (hkB : B ≤ kb) (hko : ∀ g, o.ownBlock = some g → g ≠ kb) : Calls Tryz.prog 36 #[o, .agg #[.int .i64 25, .string ⟨#[]⟩, .string ⟨#[]⟩, .int .i64 0, .string ⟨#[]⟩, .bool false, .slice none 0 0, .slice (some ⟨kb, 0, none⟩) 1 1, .int .i64 0, .int .i64 0]] w (PutIn B css t.size o w) :=
  laws_put B css o (spcG 25 ⟨#[]⟩ ⟨#[]⟩ 0 ⟨#[]⟩ false (.slice (some ⟨kb, 0, none⟩) 1 1) 0 0, t.size) kb (kb + 1) w hm (.inr ⟨_, _, _, _, _, _, _, _, _, rfl, rfl, .inr ⟨_, _, _, rfl⟩, _, by have := escK_len t; simp [sumT]; omega, gives_strong t _ _ _ _ ⟨kb, 1, rfl, Nat.le_refl _, Nat.lt_succ_self _, hk⟩ hz⟩) hkB hk.lt (fun g h => by have := hko g h; omega) hB (by omega) (by simp only; omega)
theorem lput_link (u t : ByteArray) (kb : Nat) (hu : u.size ≤ 1000) (hz : t.size ≤ 1000) (hk : RowAt 27 kb (plainC t).toList w) (hkB : B ≤ kb) (hko : ∀ g, o.ownBlock = some g → g ≠ kb) : Calls Tryz.prog 36 #[o, .agg #[.int .i64 27, .string u, .string ⟨#[]⟩, .int .i64 0, .string ⟨#[]⟩, .bool false, .slice none 0 0, .slice (some ⟨kb, 0, none⟩) 1 1, .int .i64 0, .int .i64 0]] w (PutIn B css (u.size + t.size) o w) :=
  laws_put B css o (spcG 27 u ⟨#[]⟩ 0 ⟨#[]⟩ false (.slice (some ⟨kb, 0, none⟩) 1 1) 0 0, u.size + t.size) kb (kb + 1) w hm (.inr ⟨_, _, _, _, _, _, _, _, _, rfl, rfl, .inr ⟨_, _, _, rfl⟩, _, by have := escK_len t; have := escL_len u; simp [aH, sumT]; omega, gives_link u t _ _ _ _ ⟨kb, 1, rfl, Nat.le_refl _, Nat.lt_succ_self _, hk⟩ hu hz⟩) hkB hk.lt (fun g h => by have := hko g h; omega) hB (by omega) (by simp only; omega)
end
end Go.Proofs.YtnocllocnoodnaaGreatDoor
