/- Lists of bytes without those of a class at the front, at the end; and the trims' loops in plain words. No program stands in this text. -/
import Derived.Test.YtbbgdcfbpgmjbaaGreatDoorScan
import Derived.Lib.Strings
namespace Go.Proofs.YtbbgdcfbpgmjbaaGreatDoor
open Go.RowKit
def stripF (p : Int → Bool) (l : List UInt8) : List UInt8 := l.dropWhile fun c => p (c.toNat : Int)
def stripE (p : Int → Bool) (l : List UInt8) : List UInt8 := (l.reverse.dropWhile fun c => p (c.toNat : Int)).reverse
theorem stripF_cons_yes {p : Int → Bool} {c : UInt8} {l : List UInt8} (h : p (c.toNat : Int) = true) : stripF p (c :: l) = stripF p l := by simp [stripF, h]
theorem stripF_cons_no {p : Int → Bool} {c : UInt8} {l : List UInt8} (h : p (c.toNat : Int) = false) : stripF p (c :: l) = c :: l := by simp [stripF, h]
theorem stripE_snoc_yes {p : Int → Bool} {c : UInt8} {l : List UInt8} (h : p (c.toNat : Int) = true) : stripE p (l ++ [c]) = stripE p l := by simp [stripE, h]
theorem stripE_snoc_no {p : Int → Bool} {c : UInt8} {l : List UInt8} (h : p (c.toNat : Int) = false) : stripE p (l ++ [c]) = l ++ [c] := by simp [stripE, h]
theorem stripF_nil (p : Int → Bool) : stripF p [] = [] := rfl
theorem stripE_nil (p : Int → Bool) : stripE p [] = [] := rfl
/-- a string's bytes: the first, and the string behind it -/
theorem toList_head (s : ByteArray) (h : 0 < s.size) : s.data.toList = s[0] :: (s.extract 1 s.size).data.toList := by
  rw [Lib.extract_data, List.take_of_length_le (by simp), ← drop_cons s 0 h]; rfl
theorem toList_last (s : ByteArray) (h : 0 < s.size) : s.data.toList = (s.extract 0 (s.size - 1)).data.toList ++ [s[s.size - 1]] := by
  rw [Lib.extract_data]
  have := take_snoc s (s.size - 1) (by omega)
  rw [show s.size - 1 + 1 = s.size from by omega, List.take_of_length_le (by simp)] at this
  simpa using this
theorem empty_of_size {s : ByteArray} (h : s.size = 0) : s.data.toList = [] := List.eq_nil_of_length_eq_zero (by simpa using h)
theorem scan_drop (p : Int → Bool) (l : List UInt8) : l.drop (scan p l 0) = stripF p l := by
  unfold scan stripF; simp
  induction l with
  | nil => rfl
  | cons c l ih =>
    cases h : p (c.toNat : Int) with
    | true => simp [h, ih]
    | false => simp [h]
/-- the byte ahead of the place is of the class, and the place lies behind i: 'k > i && p(s[k-1])' -/
def rB (p : Int → Bool) (s : ByteArray) (i k : Nat) : Bool := if h : i < k ∧ k ≤ s.size then p (s[k - 1].toNat : Int) else false
theorem piece_snoc (s : ByteArray) (i k : Nat) (h : i < k) (hk : k ≤ s.size) : (s.data.toList.take k).drop i = (s.data.toList.take (k - 1)).drop i ++ [s[k - 1]] := by
  have := take_snoc s (k - 1) (by omega)
  rw [show k - 1 + 1 = k from by omega] at this
  rw [this, List.drop_append_of_le_length (by simp; omega)]
theorem rB_yes {p : Int → Bool} {s : ByteArray} {i k : Nat} (h : rB p s i k = true) : i < k ∧ stripE p ((s.data.toList.take k).drop i) = stripE p ((s.data.toList.take (k - 1)).drop i) := by
  unfold rB at h
  split at h
  · rename_i hk; exact ⟨hk.1, by rw [piece_snoc s i k hk.1 hk.2, stripE_snoc_yes h]⟩
  · cases h
theorem rB_no {p : Int → Bool} {s : ByteArray} {i k : Nat} (hk : k ≤ s.size) (h : rB p s i k = false) : stripE p ((s.data.toList.take k).drop i) = (s.data.toList.take k).drop i := by
  unfold rB at h
  split at h
  · rename_i hk; rw [piece_snoc s i k hk.1 hk.2, stripE_snoc_no h]
  · rename_i hn
    rw [List.drop_eq_nil_of_le (by simp; omega), stripE_nil]
theorem extract_piece (s : ByteArray) (i k : Nat) : s.extract i k = ⟨((s.data.toList.take k).drop i).toArray⟩ := by
  rw [Lib.extract_eq, List.take_drop]
  by_cases h : i ≤ k
  · rw [show i + (k - i) = k from by omega]
  · rw [show k - i = 0 from by omega, Nat.add_zero, List.drop_eq_nil_of_le (by simp; omega), List.drop_eq_nil_of_le (by simp; omega)]
end Go.Proofs.YtbbgdcfbpgmjbaaGreatDoor
