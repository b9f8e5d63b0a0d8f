/- A text that is put together as a definition is one. -/
import Derived.Test.YtpdpkggojlpklaaDoorRefDoor
namespace Go.Proofs.YtpdpkggojlpklaaDoor
open Go.RowKit
def dfA : ByteArray := ⟨#[91]⟩
def dfB : ByteArray := ⟨#[93, 58, 32]⟩
def dfC : ByteArray := ⟨#[32, 34]⟩
def dfD : ByteArray := ⟨#[34, 10]⟩
/-- the definition's own text -/
def defText (l d t : ByteArray) : ByteArray := dfA ++ l ++ dfB ++ d ++ dfC ++ t ++ dfD
theorem def_list (l d t b : ByteArray) : (defText l d t ++ b).data.toList = 91 :: (l.data.toList ++ 93 :: 58 :: 32 :: (d.data.toList ++ 32 :: 34 :: (t.data.toList ++ 34 :: 10 :: b.data.toList))) := by
  simp [defText, dfA, dfB, dfC, dfD]
theorem def_size (l d t : ByteArray) : (defText l d t).size = l.size + d.size + t.size + 8 := by
  simp [defText, dfA, dfB, dfC, dfD]; show 1 + l.size + 3 + d.size + 2 + t.size + 2 = _; omega
theorem byte_at {s : ByteArray} {k : Nat} {x : UInt8} {r : List UInt8} (h : s.data.toList.drop k = x :: r) : ∃ hk : k < s.size, s[k] = x := by
  have hk : k < s.size := by
    rcases Nat.lt_or_ge k s.size with h' | h'
    · exact h'
    · rw [List.drop_eq_nil_of_le (by simpa using h')] at h; cases h
  rw [drop_cons s k hk] at h
  injection h with h1 _
  exact ⟨hk, h1⟩
theorem drop_on {s : ByteArray} {k : Nat} {a r : List UInt8} (h : s.data.toList.drop k = a ++ r) : s.data.toList.drop (k + a.length) = r := by
  rw [← List.drop_drop, h, List.drop_left]
theorem piece_of {s : ByteArray} {k : Nat} {x : ByteArray} {r : List UInt8} (h : s.data.toList.drop k = x.data.toList ++ r) : s.extract k (k + x.size) = x := by
  apply ByteArray.ext
  apply Array.toList_inj.1
  rw [Lib.extract_data, h, show k + x.size - k = x.data.toList.length by simp, List.take_left]
theorem byte_in {s : ByteArray} {k : Nat} {x : ByteArray} {r : List UInt8} (h : s.data.toList.drop k = x.data.toList ++ r) (j : Nat) (hj : j < x.size) (hk : k + j < s.size) : s[k + j] = x[j] := by
  have h1 : (s.data.toList.drop k)[j]? = some s[k + j] := by
    rw [List.getElem?_drop, List.getElem?_eq_getElem (by rw [Array.length_toList]; exact hk)]; rfl
  rw [h, List.getElem?_append_left (by simpa using hj), List.getElem?_eq_getElem (by simpa using hj)] at h1
  exact (Option.some.inj h1).symm
theorem labEnd_run : ∀ (l r : List UInt8) (j : Nat), (∀ c ∈ l, c ≠ 93 ∧ c ≠ 91 ∧ c ≠ 92) → labEnd (l ++ 93 :: r) j = some (j + l.length)
  | [], r, j, _ => by rw [List.nil_append, labEnd_close r j rfl]; rfl
  | c :: l, r, j, h => by
    obtain ⟨h1, h2, h3⟩ := h c (by simp)
    rw [List.cons_append, labEnd_other _ _ h1 h2 h3, labEnd_run l r (j + 1) fun d hd => h d (by simp [hd])]
    congr 1; simp; omega
/-- a byte of a title: no quotation mark, no backslash, no & -/
def titB (c : Int) : Bool := !(c == 34 || c == 92 || c == 38)
theorem tAt_run (s : ByteArray) (e : Nat) (he : ∃ h : e < s.size, (s[e].toNat : Int) = 34) : ∀ (n k : Nat), k + n = e → (∀ j (h : j < s.size), k ≤ j → j < e → titB (s[j].toNat : Int) = true) → tAt 34 false s k = some e
  | 0, k, hk, _ => by
    obtain ⟨h, h34⟩ := he
    obtain rfl : k = e := by omega
    exact tAt_hit h (escAt_not h (by rw [h34]; decide)) h34
  | n + 1, k, hk, hb => by
    obtain ⟨h, h34⟩ := he
    have hks : k < s.size := by omega
    have ht := hb k hks (Nat.le_refl _) (by omega)
    simp only [titB, Bool.not_eq_true', Bool.or_eq_false_iff, beq_eq_false_iff_ne] at ht
    rw [tAt_next hks (escAt_not hks ht.1.2) ht.1.1 (by simp)]
    exact tAt_run s e ⟨h, h34⟩ n (k + 1) (by omega) fun j hj h1 h2 => hb j hj (by omega) h2
theorem all_get {p : Int → Bool} {x : ByteArray} (h : ∀ c ∈ x.data.toList, p (c.toNat : Int) = true) (j : Nat) (hj : j < x.size) : p (x[j].toNat : Int) = true :=
  h _ (by rw [Array.mem_toList_iff]; exact Array.getElem_mem hj)
theorem def_is (l d t b : ByteArray) (hl : l.size ≤ 40) (hd : d.size ≤ 40) (ht : t.size ≤ 40) (hb : b.size ≤ 100) (hl0 : 0 < l.size) (hd0 : 0 < d.size) (hla : AlnAll l)
    (hda : ∀ c ∈ d.data.toList, destB (c.toNat : Int) = true) (hta : ∀ c ∈ t.data.toList, titB (c.toNat : Int) = true) :
    IsDef (defText l d t ++ b) (l.size + 2) (l.size + 4) (l.size + 4 + d.size) (l.size + 4 + d.size + 1) (l.size + 4 + d.size + 1 + t.size + 2) l d t := by
  have hL := def_list l d t b
  have hsz : (defText l d t ++ b).size = l.size + d.size + t.size + 8 + b.size := by rw [ByteArray.size_append, def_size]
  generalize defText l d t ++ b = s at *
  have ll : l.data.toList.length = l.size := by simp
  have dl : d.data.toList.length = d.size := by simp
  have tl : t.data.toList.length = t.size := by simp
  have d0 : s.data.toList.drop 0 = 91 :: (l.data.toList ++ 93 :: 58 :: 32 :: (d.data.toList ++ 32 :: 34 :: (t.data.toList ++ 34 :: 10 :: b.data.toList))) := by rw [List.drop_zero, hL]
  have d1 : s.data.toList.drop (0 + 1) = l.data.toList ++ 93 :: 58 :: 32 :: (d.data.toList ++ 32 :: 34 :: (t.data.toList ++ 34 :: 10 :: b.data.toList)) := drop_on (a := [91]) d0
  have d2 := drop_on d1
  rw [ll] at d2
  have d3 : s.data.toList.drop (0 + 1 + l.size + 1) = _ := drop_on (a := [93]) d2
  have d4 : s.data.toList.drop (0 + 1 + l.size + 1 + 1) = _ := drop_on (a := [58]) d3
  have d5 : s.data.toList.drop (0 + 1 + l.size + 1 + 1 + 1) = _ := drop_on (a := [32]) d4
  have d6 := drop_on d5
  rw [dl] at d6
  have d7 : s.data.toList.drop (0 + 1 + l.size + 1 + 1 + 1 + d.size + 1) = _ := drop_on (a := [32]) d6
  have d8 : s.data.toList.drop (0 + 1 + l.size + 1 + 1 + 1 + d.size + 1 + 1) = _ := drop_on (a := [34]) d7
  have d9 := drop_on d8
  rw [tl] at d9
  have d10 : s.data.toList.drop (0 + 1 + l.size + 1 + 1 + 1 + d.size + 1 + 1 + t.size + 1) = _ := drop_on (a := [34]) d9
  have n3 : 0 + 1 + l.size + 1 = l.size + 2 := by omega
  have n4 : 0 + 1 + l.size + 1 + 1 = l.size + 3 := by omega
  have n5 : 0 + 1 + l.size + 1 + 1 + 1 = l.size + 4 := by omega
  have n6 : 0 + 1 + l.size + 1 + 1 + 1 + d.size = l.size + 4 + d.size := by omega
  have n7 : 0 + 1 + l.size + 1 + 1 + 1 + d.size + 1 = l.size + 4 + d.size + 1 := by omega
  have n8 : 0 + 1 + l.size + 1 + 1 + 1 + d.size + 1 + 1 = l.size + 4 + d.size + 1 + 1 := by omega
  have n9 : 0 + 1 + l.size + 1 + 1 + 1 + d.size + 1 + 1 + t.size = l.size + 4 + d.size + 1 + 1 + t.size := by omega
  have n10 : 0 + 1 + l.size + 1 + 1 + 1 + d.size + 1 + 1 + t.size + 1 = l.size + 4 + d.size + 1 + t.size + 2 := by omega
  rw [n3] at d3
  rw [n4] at d4
  rw [n5] at d5
  rw [n6] at d6
  rw [n7] at d7
  rw [n8] at d8
  rw [n9] at d9
  rw [n10] at d10
  clear n3 n4 n5 n6 n7 n8 n9 n10 hL
  obtain ⟨k0, b0⟩ := byte_at d0
  obtain ⟨k3, b3⟩ := byte_at d3
  obtain ⟨k4, b4⟩ := byte_at d4
  obtain ⟨k6, b6⟩ := byte_at d6
  obtain ⟨k7, b7⟩ := byte_at d7
  obtain ⟨k9, b9⟩ := byte_at d9
  obtain ⟨k10, b10⟩ := byte_at d10
  have hdb : ∀ k (h : k < s.size), l.size + 4 ≤ k → k < l.size + 4 + d.size → destB (s[k].toNat : Int) = true := by
    intro k h h1 h2
    obtain ⟨j, rfl⟩ : ∃ j, k = l.size + 4 + j := ⟨k - (l.size + 4), by omega⟩
    rw [byte_in d5 j (by omega) h]
    exact all_get hda j (by omega)
  refine ⟨by omega, by omega, ⟨by omega, by omega⟩, by omega, k10, by omega, by omega, ⟨k0, by rw [b0]; rfl⟩, ?_, ?_, hla, ⟨k3, by rw [b3]; rfl⟩, ?_, hdb, piece_of d5, ⟨k6, by rw [b6]; rfl⟩, ⟨k7, by rw [b7]; rfl⟩, ?_, by rw [b10]; rfl⟩
  · exact scan_stop spaceB s 0 k0 (by rw [b0]; rfl)
  · have hle : labEnd (s.data.toList.drop (0 + 1)) 1 = some (l.size + 1 - 0) := by
      rw [d1, labEnd_run _ _ _ (fun c hc => by
        have := aln_bytes (hla c hc)
        refine ⟨?_, ?_, ?_⟩ <;> (intro e; subst e; revert this; decide)), ll]
      congr 1; omega
    have hpc : (s.data.toList.take (l.size + 1)).drop (0 + 1) = l.data.toList := by
      have h1 := d1
      rw [show l.size + 1 = 0 + 1 + l.size by omega, List.drop_take, h1, show 0 + 1 + l.size - (0 + 1) = l.data.toList.length by rw [ll]; omega, List.take_left]
    have hst : strip2 spaceB l.data.toList = l.data.toList := strip_aln hla
    have hne : strip2 spaceB ((s.data.toList.take (l.size + 1)).drop (0 + 1)) ≠ [] := by
      rw [hpc, hst]; intro e
      have := congrArg List.length e
      rw [ll, List.length_nil] at this; omega
    rw [labelRes_some (i := 0) (k := l.size + 1) (by omega) hle hne, hpc, hst, arr_list]
    congr 3
  · have hsc : scan spaceB s.data.toList (l.size + 2 + 1) = scan spaceB s.data.toList (l.size + 4) := by
      have := scan_step spaceB s (l.size + 3) k4 (by rw [b4]; rfl)
      exact this
    have hp : l.size + 4 < s.size := by omega
    rw [hsc]
    refine scan_stop spaceB s _ hp ?_
    have := hdb (l.size + 4) hp (Nat.le_refl _) (by omega)
    simp only [destB, Bool.not_eq_true', Bool.or_eq_false_iff] at this
    simp [spaceB, this]
  · have htr : tAt 34 false s (l.size + 4 + d.size + 1 + 1) = some (l.size + 4 + d.size + 1 + 1 + t.size) := by
      refine tAt_run s _ ⟨k9, by rw [b9]; rfl⟩ t.size _ (by omega) ?_
      intro j h h1 h2
      obtain ⟨i, rfl⟩ : ∃ i, j = l.size + 4 + d.size + 1 + 1 + i := ⟨j - (l.size + 4 + d.size + 1 + 1), by omega⟩
      rw [byte_in d8 i (by omega) h]
      exact all_get hta i (by omega)
    rw [htr]
    unfold titleP
    simp only
    rw [piece_of d8, rp_plain _ (fun h => by have := hta _ h; cases this) (fun h => by have := hta _ h; cases this), arr_list]
    rw [show (((l.size + 4 + d.size + 1 + 1 + t.size : Nat) : Int) + 1) = ((l.size + 4 + d.size + 1 + t.size + 2 : Nat) : Int) by omega]
end Go.Proofs.YtpdpkggojlpklaaDoor
