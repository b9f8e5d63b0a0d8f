/- The first place of a text in a text, in plain words. No program stands in this text. -/
import Derived.Test.YtbbgdcfbpgmjbaaGreatDoorStripPlain
import Derived.Lib.Bytealg
namespace Go.Proofs.YtbbgdcfbpgmjbaaGreatDoor
open Go.RowKit
/-- the first place where sub stands in the list -/
def findSub (sub : List UInt8) : List UInt8 → Option Nat
  | [] => if sub.isPrefixOf [] then some 0 else none
  | c :: r => if sub.isPrefixOf (c :: r) then some 0 else (findSub sub r).map (· + 1)
theorem findSub_yes {sub l : List UInt8} (h : sub.isPrefixOf l = true) : findSub sub l = some 0 := by
  cases l with
  | nil => rw [findSub, if_pos h]
  | cons c r => rw [findSub, if_pos h]
theorem findSub_no {sub : List UInt8} {c : UInt8} {r : List UInt8} (h : sub.isPrefixOf (c :: r) = false) : findSub sub (c :: r) = (findSub sub r).map (· + 1) := by
  rw [findSub, if_neg (by simp [h])]
theorem findSub_short {sub : List UInt8} : ∀ {l : List UInt8}, l.length < sub.length → findSub sub l = none
  | [], h => by
    cases sub with
    | nil => simp at h
    | cons _ _ => rw [findSub]; simp
  | c :: r, h => by
    have hp : sub.isPrefixOf (c :: r) = false := by
      cases hh : sub.isPrefixOf (c :: r) with
      | false => rfl
      | true => have := (List.isPrefixOf_iff_prefix.1 hh).length_le; omega
    rw [findSub_no hp, findSub_short (by simp at h; omega)]; rfl
/-- the result as Go's search gives it -/
def idxInt (o : Option Nat) : Int := match o with | some k => (k : Int) | none => -1
theorem idx_some (k : Nat) : idxInt (some k) = k := rfl
theorem idx_none : idxInt none = -1 := rfl
theorem idx_ge (o : Option Nat) : -1 ≤ idxInt o := by cases o with
  | none => simp [idxInt]
  | some k => simp only [idxInt]; omega
/-- the test of a piece, as the walk leaves it -/
theorem piece_test (s sub : ByteArray) (i : Nat) (_h : i + sub.size ≤ s.size) : ((s.extract i (i + sub.size)).toList == sub.toList) = sub.data.toList.isPrefixOf (s.data.toList.drop i) := by
  rw [Lib.toList_data, Lib.toList_data, Lib.extract_data, show i + sub.size - i = sub.size from by omega, Lib.size_eq sub]
  rw [Bool.eq_iff_iff, beq_iff_eq, List.isPrefixOf_iff_prefix, List.prefix_iff_eq_take]
  exact ⟨fun h => h.symm, fun h => h.symm⟩
theorem findSub_lt {sub : List UInt8} : ∀ {l : List UInt8} {k : Nat}, findSub sub l = some k → k + sub.length ≤ l.length ∧ sub.isPrefixOf (l.drop k) = true
  | [], k, h => by
    rw [findSub] at h
    split at h
    · rename_i hp; injection h with h; subst h
      have := (List.isPrefixOf_iff_prefix.1 hp).length_le
      exact ⟨by simpa using this, by simpa using hp⟩
    · cases h
  | c :: r, k, h => by
    cases hp : sub.isPrefixOf (c :: r) with
    | true =>
      rw [findSub_yes hp] at h; injection h with h; subst h
      have := (List.isPrefixOf_iff_prefix.1 hp).length_le
      exact ⟨by simpa using this, by simpa using hp⟩
    | false =>
      rw [findSub_no hp] at h
      cases hr : findSub sub r with
      | none => rw [hr] at h; cases h
      | some j =>
        rw [hr] at h; injection h with h; subst h
        have := findSub_lt hr
        exact ⟨by simp; omega, by simpa using this.2⟩
/-- the place of a byte, by a scan -/
theorem indexByte_scan (l : List UInt8) (c : UInt8) : Lib.indexByte l c = if scan (fun d => d != (c.toNat : Int)) l 0 < l.length then ((scan (fun d => d != (c.toNat : Int)) l 0 : Nat) : Int) else -1 := by
  induction l with
  | nil => rfl
  | cons d l ih =>
    have hs : ∀ m : List UInt8, scan (fun d => d != (c.toNat : Int)) m 0 = (m.takeWhile fun x => (x.toNat : Int) != (c.toNat : Int)).length := fun m => by unfold scan; simp
    rw [hs] at ih ⊢
    rw [Lib.indexByte]
    by_cases hd : d = c
    · subst hd; simp
    · have hne : ¬ (d.toNat : Int) = (c.toNat : Int) := fun h => hd (UInt8.toNat_inj.1 (by omega))
      have hb : ((d.toNat : Int) != (c.toNat : Int)) = true := by simpa using hne
      rw [if_neg (by simpa using hd), List.takeWhile_cons, if_pos hb, ih]
      simp only [List.length_cons]
      generalize (l.takeWhile fun x => (x.toNat : Int) != (c.toNat : Int)).length = n
      by_cases hl : n < l.length
      · have h1 : ((n : Int) == -1) = false := beq_eq_false_iff_ne.2 (by omega)
        have h2 : n + 1 < l.length + 1 := by omega
        simp only [if_pos hl, h1, if_pos h2, Bool.false_eq_true, if_false]; omega
      · have h2 : ¬ n + 1 < l.length + 1 := by omega
        simp only [if_neg hl, if_neg h2]; rfl
end Go.Proofs.YtbbgdcfbpgmjbaaGreatDoor
