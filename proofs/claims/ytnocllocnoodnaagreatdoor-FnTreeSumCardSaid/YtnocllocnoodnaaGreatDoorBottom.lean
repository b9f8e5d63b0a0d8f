/- Plain words for the walks: classes of bytes, scans over lists of bytes, small laws on endings and strings. No program stands in this text. -/
import Derived.Lib.Strings
import Derived.WalkKit
import Derived.Below
import Derived.Lib.Hide
namespace Go.Proofs.YtnocllocnoodnaaGreatDoor
open Go.RowKit

theorem ret_int {k : IntKind} {a b : Int} (h : a = b) : Ending.returned (.int k a) = Ending.returned (.int k b) := by rw [h]
theorem ret_bool {a b : Bool} (h : a = b) : Ending.returned (.bool a) = Ending.returned (.bool b) := by rw [h]
theorem ret_str {a b : ByteArray} (h : a = b) : Ending.returned (.string a) = Ending.returned (.string b) := by rw [h]

/-! ### classes of bytes (a byte as an Int) -/
def upB (c : Int) : Bool := decide (65 ≤ c) && decide (c ≤ 90)
def loB (c : Int) : Bool := decide (97 ≤ c) && decide (c ≤ 122)
def digB (c : Int) : Bool := decide (48 ≤ c) && decide (c ≤ 57)
def letB (c : Int) : Bool := upB c || loB c
def alnB (c : Int) : Bool := letB c || digB c
def ldhB (c : Int) : Bool := alnB c || c == 45
def hexB (c : Int) : Bool := digB c || (decide (97 ≤ c) && decide (c ≤ 102)) || (decide (65 ≤ c) && decide (c ≤ 70))
def punctB (c : Int) : Bool := (decide (33 ≤ c) && decide (c ≤ 47)) || (decide (58 ≤ c) && decide (c ≤ 64)) || (decide (91 ≤ c) && decide (c ≤ 96)) || (decide (123 ≤ c) && decide (c ≤ 126))
def urlB (c : Int) : Bool := decide (32 < c) && c != 60 && c != 62
/-- white space of tables -/
def tabspB (c : Int) : Bool := c == 32 || c == 9 || c == 11 || c == 12
/-- a space, a tab, a line feed, a carriage return -/
def blankB (c : Int) : Bool := c == 32 || c == 9 || c == 10 || c == 13
/-- a space, a tab, a line feed -/
def spaceB (c : Int) : Bool := c == 32 || c == 9 || c == 10

/-! ### scans -/
/-- the first place from i on whose byte is not of the class (the end, if there is none) -/
def scan (p : Int → Bool) (l : List UInt8) (i : Nat) : Nat := i + ((l.drop i).takeWhile fun c => p (c.toNat : Int)).length
theorem drop_cons (s : ByteArray) (k : Nat) (h : k < s.size) : s.data.toList.drop k = s[k] :: s.data.toList.drop (k + 1) := by
  rw [List.drop_eq_getElem_cons (by simpa using h)]; rfl
theorem scan_step (p : Int → Bool) (s : ByteArray) (k : Nat) (h : k < s.size) (hp : p (s[k].toNat : Int) = true) : scan p s.data.toList k = scan p s.data.toList (k + 1) := by
  unfold scan; rw [drop_cons s k h, List.takeWhile_cons, if_pos hp]; simp; omega
theorem scan_stop (p : Int → Bool) (s : ByteArray) (k : Nat) (h : k < s.size) (hp : p (s[k].toNat : Int) = false) : scan p s.data.toList k = k := by
  unfold scan; rw [drop_cons s k h, List.takeWhile_cons, if_neg (by simp [hp])]; simp
theorem scan_end (p : Int → Bool) (s : ByteArray) (k : Nat) (h : s.size ≤ k) : scan p s.data.toList k = k := by
  unfold scan; rw [List.drop_eq_nil_of_le (by simpa using h)]; simp
end Go.Proofs.YtnocllocnoodnaaGreatDoor
namespace Go.Proofs.YtnocllocnoodnaaGreatDoor
open Go.RowKit
theorem le_scan (p : Int → Bool) (l : List UInt8) (i : Nat) : i ≤ scan p l i := by unfold scan; omega
theorem scan_le (p : Int → Bool) (l : List UInt8) (i : Nat) (h : i ≤ l.length) : scan p l i ≤ l.length := by
  unfold scan
  have := (List.takeWhile_prefix (fun c : UInt8 => p (c.toNat : Int)) (l := l.drop i)).length_le
  rw [List.length_drop] at this; omega
theorem scan_size (p : Int → Bool) (s : ByteArray) (i : Nat) (h : i ≤ s.size) : scan p s.data.toList i ≤ s.size := by
  have := scan_le p s.data.toList i (by simpa using h); simpa using this

/-- there is a byte at the place, and it is of the class: 'k < len(s) && p(s[k])' -/
def atB (p : Int → Bool) (s : ByteArray) (k : Nat) : Bool := if h : k < s.size then p (s[k].toNat : Int) else false
theorem atB_of {p : Int → Bool} {s : ByteArray} {k : Nat} (h : k < s.size) : atB p s k = p (s[k].toNat : Int) := dif_pos h
theorem atB_off {p : Int → Bool} {s : ByteArray} {k : Nat} (h : ¬ k < s.size) : atB p s k = false := dif_neg h
theorem atB_lt {p : Int → Bool} {s : ByteArray} {k : Nat} (h : atB p s k = true) : k < s.size := by
  unfold atB at h; split at h
  · assumption
  · cases h
theorem scan_yes {p : Int → Bool} {s : ByteArray} {k : Nat} (h : atB p s k = true) : scan p s.data.toList k = scan p s.data.toList (k + 1) :=
  scan_step p s k (atB_lt h) ((atB_of (p := p) (atB_lt h)).symm.trans h)
theorem scan_no {p : Int → Bool} {s : ByteArray} {k : Nat} (h : atB p s k = false) : scan p s.data.toList k = k := by
  by_cases hk : k < s.size
  · exact scan_stop p s k hk ((atB_of (p := p) hk).symm.trans h)
  · exact scan_end p s k (by omega)

/-! ### texts of printable bytes and line feeds -/
def linB (c : Int) : Bool := c == 10 || (decide (32 ≤ c) && decide (c ≤ 126))
def prB (c : Int) : Bool := decide (32 ≤ c) && decide (c ≤ 126)
/-- every byte is of the class -/
def allB (p : Int → Bool) (l : List UInt8) : Bool := l.all fun c => p (c.toNat : Int)
theorem allB_take_zero (p : Int → Bool) (s : ByteArray) : allB p (s.data.toList.take 0) = true := rfl
theorem take_snoc (s : ByteArray) (k : Nat) (h : k < s.size) : s.data.toList.take (k + 1) = s.data.toList.take k ++ [s[k]] := by
  rw [List.take_succ_eq_append_getElem (by simpa using h)]; rfl
theorem allB_take_succ (p : Int → Bool) (s : ByteArray) (k : Nat) (h : k < s.size) (ha : allB p (s.data.toList.take k) = true) (hp : p (s[k].toNat : Int) = true) :
    allB p (s.data.toList.take (k + 1)) = true := by
  rw [take_snoc s k h]; unfold allB at *; simp [List.all_append, ha, hp]
theorem allB_bad (p : Int → Bool) (s : ByteArray) (k : Nat) (h : k < s.size) (hp : p (s[k].toNat : Int) = false) : allB p s.data.toList = false := by
  unfold allB; rw [List.all_eq_false]; exact ⟨s[k], Array.getElem_mem_toList h, by simp [hp]⟩
theorem allB_end (p : Int → Bool) (s : ByteArray) (k : Nat) (h : s.size ≤ k) (ha : allB p (s.data.toList.take k) = true) : allB p s.data.toList = true := by
  rwa [List.take_of_length_le (by simpa using h)] at ha
theorem allB_get (p : Int → Bool) (s : ByteArray) (ha : allB p s.data.toList = true) (k : Nat) (h : k < s.size) : p (s[k].toNat : Int) = true := by
  cases hp : p (s[k].toNat : Int) with
  | true => rfl
  | false => rw [allB_bad p s k h hp] at ha; cases ha
/-- of so many bytes at most, all of the class -/
def fitB (p : Int → Bool) (s : ByteArray) (most : Int) : Bool := decide ((s.size : Int) ≤ most) && allB p s.data.toList
end Go.Proofs.YtnocllocnoodnaaGreatDoor
namespace Go.Proofs.YtnocllocnoodnaaGreatDoor
open Go.RowKit
def stripF (p : Int → Bool) (l : List UInt8) : List UInt8 := l.dropWhile fun c => p (c.toNat : Int)
def stripE (p : Int → Bool) (l : List UInt8) : List UInt8 := (l.reverse.dropWhile fun c => p (c.toNat : Int)).reverse
theorem stripF_cons_yes {p : Int → Bool} {c : UInt8} {l : List UInt8} (h : p (c.toNat : Int) = true) : stripF p (c :: l) = stripF p l := by simp [stripF, h]
theorem stripF_cons_no {p : Int → Bool} {c : UInt8} {l : List UInt8} (h : p (c.toNat : Int) = false) : stripF p (c :: l) = c :: l := by simp [stripF, h]
theorem stripE_snoc_yes {p : Int → Bool} {c : UInt8} {l : List UInt8} (h : p (c.toNat : Int) = true) : stripE p (l ++ [c]) = stripE p l := by simp [stripE, h]
theorem stripE_snoc_no {p : Int → Bool} {c : UInt8} {l : List UInt8} (h : p (c.toNat : Int) = false) : stripE p (l ++ [c]) = l ++ [c] := by simp [stripE, h]
theorem stripF_nil (p : Int → Bool) : stripF p [] = [] := rfl
theorem stripE_nil (p : Int → Bool) : stripE p [] = [] := rfl
/-- a string's bytes: the first, and the string behind it -/
theorem toList_head (s : ByteArray) (h : 0 < s.size) : s.data.toList = s[0] :: (s.extract 1 s.size).data.toList := by
  rw [Lib.extract_data, List.take_of_length_le (by simp), ← drop_cons s 0 h]; rfl
theorem toList_last (s : ByteArray) (h : 0 < s.size) : s.data.toList = (s.extract 0 (s.size - 1)).data.toList ++ [s[s.size - 1]] := by
  rw [Lib.extract_data]
  have := take_snoc s (s.size - 1) (by omega)
  rw [show s.size - 1 + 1 = s.size from by omega, List.take_of_length_le (by simp)] at this
  simpa using this
theorem empty_of_size {s : ByteArray} (h : s.size = 0) : s.data.toList = [] := List.eq_nil_of_length_eq_zero (by simpa using h)
theorem scan_drop (p : Int → Bool) (l : List UInt8) : l.drop (scan p l 0) = stripF p l := by
  unfold scan stripF; simp
  induction l with
  | nil => rfl
  | cons c l ih =>
    cases h : p (c.toNat : Int) with
    | true => simp [h, ih]
    | false => simp [h]
/-- the byte ahead of the place is of the class, and the place lies behind i: 'k > i && p(s[k-1])' -/
def rB (p : Int → Bool) (s : ByteArray) (i k : Nat) : Bool := if h : i < k ∧ k ≤ s.size then p (s[k - 1].toNat : Int) else false
theorem piece_snoc (s : ByteArray) (i k : Nat) (h : i < k) (hk : k ≤ s.size) : (s.data.toList.take k).drop i = (s.data.toList.take (k - 1)).drop i ++ [s[k - 1]] := by
  have := take_snoc s (k - 1) (by omega)
  rw [show k - 1 + 1 = k from by omega] at this
  rw [this, List.drop_append_of_le_length (by simp; omega)]
theorem rB_yes {p : Int → Bool} {s : ByteArray} {i k : Nat} (h : rB p s i k = true) : i < k ∧ stripE p ((s.data.toList.take k).drop i) = stripE p ((s.data.toList.take (k - 1)).drop i) := by
  unfold rB at h
  split at h
  · rename_i hk; exact ⟨hk.1, by rw [piece_snoc s i k hk.1 hk.2, stripE_snoc_yes h]⟩
  · cases h
theorem rB_no {p : Int → Bool} {s : ByteArray} {i k : Nat} (hk : k ≤ s.size) (h : rB p s i k = false) : stripE p ((s.data.toList.take k).drop i) = (s.data.toList.take k).drop i := by
  unfold rB at h
  split at h
  · rename_i hk; rw [piece_snoc s i k hk.1 hk.2, stripE_snoc_no h]
  · rename_i hn
    rw [List.drop_eq_nil_of_le (by simp; omega), stripE_nil]
theorem extract_piece (s : ByteArray) (i k : Nat) : s.extract i k = ⟨((s.data.toList.take k).drop i).toArray⟩ := by
  rw [Lib.extract_eq, List.take_drop]
  by_cases h : i ≤ k
  · rw [show i + (k - i) = k from by omega]
  · rw [show k - i = 0 from by omega, Nat.add_zero, List.drop_eq_nil_of_le (by simp; omega), List.drop_eq_nil_of_le (by simp; omega)]
end Go.Proofs.YtnocllocnoodnaaGreatDoor
