/- Plain words for the walks: classes of bytes, scans over lists of bytes, small laws on endings and strings. No program stands in this text. -/
import Derived.Lib.Strings
import Derived.WalkKit
import Derived.Below
import Derived.Lib.Hide
namespace Go.Proofs.YtbbgdcfbpgmjbaaGreatDoor
open Go.RowKit

theorem ret_int {k : IntKind} {a b : Int} (h : a = b) : Ending.returned (.int k a) = Ending.returned (.int k b) := by rw [h]
theorem ret_bool {a b : Bool} (h : a = b) : Ending.returned (.bool a) = Ending.returned (.bool b) := by rw [h]
theorem ret_str {a b : ByteArray} (h : a = b) : Ending.returned (.string a) = Ending.returned (.string b) := by rw [h]

/-! ### classes of bytes (a byte as an Int) -/
def upB (c : Int) : Bool := decide (65 ≤ c) && decide (c ≤ 90)
def loB (c : Int) : Bool := decide (97 ≤ c) && decide (c ≤ 122)
def digB (c : Int) : Bool := decide (48 ≤ c) && decide (c ≤ 57)
def letB (c : Int) : Bool := upB c || loB c
def alnB (c : Int) : Bool := letB c || digB c
def ldhB (c : Int) : Bool := alnB c || c == 45
def hexB (c : Int) : Bool := digB c || (decide (97 ≤ c) && decide (c ≤ 102)) || (decide (65 ≤ c) && decide (c ≤ 70))
def punctB (c : Int) : Bool := (decide (33 ≤ c) && decide (c ≤ 47)) || (decide (58 ≤ c) && decide (c ≤ 64)) || (decide (91 ≤ c) && decide (c ≤ 96)) || (decide (123 ≤ c) && decide (c ≤ 126))
def urlB (c : Int) : Bool := decide (32 < c) && c != 60 && c != 62
/-- white space of tables -/
def tabspB (c : Int) : Bool := c == 32 || c == 9 || c == 11 || c == 12
/-- a space, a tab, a line feed, a carriage return -/
def blankB (c : Int) : Bool := c == 32 || c == 9 || c == 10 || c == 13
/-- a space, a tab, a line feed -/
def spaceB (c : Int) : Bool := c == 32 || c == 9 || c == 10

/-! ### scans -/
/-- the first place from i on whose byte is not of the class (the end, if there is none) -/
def scan (p : Int → Bool) (l : List UInt8) (i : Nat) : Nat := i + ((l.drop i).takeWhile fun c => p (c.toNat : Int)).length
theorem drop_cons (s : ByteArray) (k : Nat) (h : k < s.size) : s.data.toList.drop k = s[k] :: s.data.toList.drop (k + 1) := by
  rw [List.drop_eq_getElem_cons (by simpa using h)]; rfl
theorem scan_step (p : Int → Bool) (s : ByteArray) (k : Nat) (h : k < s.size) (hp : p (s[k].toNat : Int) = true) : scan p s.data.toList k = scan p s.data.toList (k + 1) := by
  unfold scan; rw [drop_cons s k h, List.takeWhile_cons, if_pos hp]; simp; omega
theorem scan_stop (p : Int → Bool) (s : ByteArray) (k : Nat) (h : k < s.size) (hp : p (s[k].toNat : Int) = false) : scan p s.data.toList k = k := by
  unfold scan; rw [drop_cons s k h, List.takeWhile_cons, if_neg (by simp [hp])]; simp
theorem scan_end (p : Int → Bool) (s : ByteArray) (k : Nat) (h : s.size ≤ k) : scan p s.data.toList k = k := by
  unfold scan; rw [List.drop_eq_nil_of_le (by simpa using h)]; simp
end Go.Proofs.YtbbgdcfbpgmjbaaGreatDoor
