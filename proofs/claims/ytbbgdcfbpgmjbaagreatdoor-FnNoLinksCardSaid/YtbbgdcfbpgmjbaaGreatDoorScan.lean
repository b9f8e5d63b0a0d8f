/- Scans over the bytes of a string, and texts all of one class. No program stands in this text. -/
import Derived.Test.YtbbgdcfbpgmjbaaGreatDoorPlain
namespace Go.Proofs.YtbbgdcfbpgmjbaaGreatDoor
open Go.RowKit
theorem le_scan (p : Int → Bool) (l : List UInt8) (i : Nat) : i ≤ scan p l i := by unfold scan; omega
theorem scan_le (p : Int → Bool) (l : List UInt8) (i : Nat) (h : i ≤ l.length) : scan p l i ≤ l.length := by
  unfold scan
  have := (List.takeWhile_prefix (fun c : UInt8 => p (c.toNat : Int)) (l := l.drop i)).length_le
  rw [List.length_drop] at this; omega
theorem scan_size (p : Int → Bool) (s : ByteArray) (i : Nat) (h : i ≤ s.size) : scan p s.data.toList i ≤ s.size := by
  have := scan_le p s.data.toList i (by simpa using h); simpa using this

/-- there is a byte at the place, and it is of the class: 'k < len(s) && p(s[k])' -/
def atB (p : Int → Bool) (s : ByteArray) (k : Nat) : Bool := if h : k < s.size then p (s[k].toNat : Int) else false
theorem atB_of {p : Int → Bool} {s : ByteArray} {k : Nat} (h : k < s.size) : atB p s k = p (s[k].toNat : Int) := dif_pos h
theorem atB_off {p : Int → Bool} {s : ByteArray} {k : Nat} (h : ¬ k < s.size) : atB p s k = false := dif_neg h
theorem atB_lt {p : Int → Bool} {s : ByteArray} {k : Nat} (h : atB p s k = true) : k < s.size := by
  unfold atB at h; split at h
  · assumption
  · cases h
theorem scan_yes {p : Int → Bool} {s : ByteArray} {k : Nat} (h : atB p s k = true) : scan p s.data.toList k = scan p s.data.toList (k + 1) :=
  scan_step p s k (atB_lt h) ((atB_of (p := p) (atB_lt h)).symm.trans h)
theorem scan_no {p : Int → Bool} {s : ByteArray} {k : Nat} (h : atB p s k = false) : scan p s.data.toList k = k := by
  by_cases hk : k < s.size
  · exact scan_stop p s k hk ((atB_of (p := p) hk).symm.trans h)
  · exact scan_end p s k (by omega)

/-! ### texts of printable bytes and line feeds -/
def linB (c : Int) : Bool := c == 10 || (decide (32 ≤ c) && decide (c ≤ 126))
def prB (c : Int) : Bool := decide (32 ≤ c) && decide (c ≤ 126)
/-- every byte is of the class -/
def allB (p : Int → Bool) (l : List UInt8) : Bool := l.all fun c => p (c.toNat : Int)
theorem allB_take_zero (p : Int → Bool) (s : ByteArray) : allB p (s.data.toList.take 0) = true := rfl
theorem take_snoc (s : ByteArray) (k : Nat) (h : k < s.size) : s.data.toList.take (k + 1) = s.data.toList.take k ++ [s[k]] := by
  rw [List.take_succ_eq_append_getElem (by simpa using h)]; rfl
theorem allB_take_succ (p : Int → Bool) (s : ByteArray) (k : Nat) (h : k < s.size) (ha : allB p (s.data.toList.take k) = true) (hp : p (s[k].toNat : Int) = true) :
    allB p (s.data.toList.take (k + 1)) = true := by
  rw [take_snoc s k h]; unfold allB at *; simp [List.all_append, ha, hp]
theorem allB_bad (p : Int → Bool) (s : ByteArray) (k : Nat) (h : k < s.size) (hp : p (s[k].toNat : Int) = false) : allB p s.data.toList = false := by
  unfold allB; rw [List.all_eq_false]; exact ⟨s[k], Array.getElem_mem_toList h, by simp [hp]⟩
theorem allB_end (p : Int → Bool) (s : ByteArray) (k : Nat) (h : s.size ≤ k) (ha : allB p (s.data.toList.take k) = true) : allB p s.data.toList = true := by
  rwa [List.take_of_length_le (by simpa using h)] at ha
theorem allB_get (p : Int → Bool) (s : ByteArray) (ha : allB p s.data.toList = true) (k : Nat) (h : k < s.size) : p (s[k].toNat : Int) = true := by
  cases hp : p (s[k].toNat : Int) with
  | true => rfl
  | false => rw [allB_bad p s k h hp] at ha; cases ha
/-- of so many bytes at most, all of the class -/
def fitB (p : Int → Bool) (s : ByteArray) (most : Int) : Bool := decide ((s.size : Int) ≤ most) && allB p s.data.toList
end Go.Proofs.YtbbgdcfbpgmjbaaGreatDoor
