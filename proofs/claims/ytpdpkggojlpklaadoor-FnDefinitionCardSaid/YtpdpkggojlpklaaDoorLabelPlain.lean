/- Link labels in plain words: where the bracket ends, and what stands between. No program stands in this text. -/
import Derived.Test.YtpdpkggojlpklaaDoorStripPlain
namespace Go.Proofs.YtpdpkggojlpklaaDoor
open Go.RowKit
/-- the place of the bracket that ends a label: j is the place of the list's head -/
def labEnd : List UInt8 → Nat → Option Nat
  | [], _ => none
  | c :: r, j => if c = 93 then some j else if c = 91 then none else if c = 92 then (match r with | [] => none | _ :: r' => labEnd r' (j + 2)) else labEnd r (j + 1)
theorem labEnd_nil (j : Nat) : labEnd [] j = none := rfl
theorem labEnd_close {c : UInt8} (r : List UInt8) (j : Nat) (h : c = 93) : labEnd (c :: r) j = some j := by subst h; rw [labEnd.eq_def]; simp
theorem labEnd_open {c : UInt8} (r : List UInt8) (j : Nat) (h : c = 91) : labEnd (c :: r) j = none := by subst h; rw [labEnd.eq_def]; simp
theorem labEnd_back {c : UInt8} (d : UInt8) (r : List UInt8) (j : Nat) (h : c = 92) : labEnd (c :: d :: r) j = labEnd r (j + 2) := by subst h; rw [labEnd.eq_def]; simp
theorem labEnd_last {c : UInt8} (j : Nat) (h : c = 92) : labEnd [c] j = none := by subst h; rw [labEnd.eq_def]; simp
theorem labEnd_other {c : UInt8} (r : List UInt8) (j : Nat) (h1 : c ≠ 93) (h2 : c ≠ 91) (h3 : c ≠ 92) : labEnd (c :: r) j = labEnd r (j + 1) := by
  rw [labEnd.eq_def]; simp [h1, h2, h3]
/-- the length of the list is a bound on the place -/
theorem labEnd_lt : ∀ (n : Nat) (l : List UInt8) (j e : Nat), l.length ≤ n → labEnd l j = some e → j ≤ e ∧ e < j + l.length := by
  intro n
  induction n with
  | zero => intro l j e hn h; obtain rfl := List.eq_nil_of_length_eq_zero (Nat.le_zero.1 hn); cases h
  | succ n ih =>
    intro l j e hn h
    match l, h with
    | [], h => cases h
    | c :: r, h =>
      by_cases h1 : c = 93
      · rw [labEnd_close r j h1] at h; injection h with h; subst h; simp
      · by_cases h2 : c = 91
        · rw [labEnd_open r j h2] at h; cases h
        · by_cases h3 : c = 92
          · match r, h, hn with
            | [], h, _ => rw [labEnd_last j h3] at h; cases h
            | d :: r', h, hn =>
              rw [labEnd_back d r' j h3] at h
              simp at hn
              have := ih r' (j + 2) e (by omega) h
              simp; omega
          · rw [labEnd_other r j h1 h2 h3] at h
            simp at hn
            have := ih r (j + 1) e hn h
            simp; omega
/-- without blanks at both ends -/
def strip2 (p : Int → Bool) (l : List UInt8) : List UInt8 := stripE p (stripF p l)
/-- the label that a text begins with (its first byte is a bracket): the place of the closing bracket -/
def labelOf (t : List UInt8) : Option Nat :=
  match labEnd (t.drop 1) 1 with
  | some e => if (strip2 spaceB ((t.take e).drop 1)).isEmpty then none else some e
  | none => none
theorem stripF_empty {p : Int → Bool} {l : List UInt8} : stripF p l = [] ↔ ∀ c ∈ l, p (c.toNat : Int) = true := by
  unfold stripF
  induction l with
  | nil => simp
  | cons c l ih =>
    cases h : p (c.toNat : Int) with
    | true => simp [h, ih]
    | false => simp [h]
theorem head_stripF {p : Int → Bool} : ∀ {l : List UInt8} {c : UInt8} {r : List UInt8}, stripF p l = c :: r → p (c.toNat : Int) = false
  | [], _, _, h => by simp [stripF] at h
  | d :: l, c, r, h => by
    cases hd : p (d.toNat : Int) with
    | true => rw [stripF_cons_yes hd] at h; exact head_stripF h
    | false => rw [stripF_cons_no hd] at h; injection h with h1 h2; subst h1; exact hd
theorem strip2_empty {p : Int → Bool} {l : List UInt8} : strip2 p l = [] ↔ ∀ c ∈ l, p (c.toNat : Int) = true := by
  have h1 : ∀ m : List UInt8, stripE p m = [] ↔ ∀ c ∈ m, p (c.toNat : Int) = true := fun m => by
    have := stripF_empty (p := p) (l := m.reverse)
    unfold stripE; unfold stripF at this
    rw [List.reverse_eq_nil_iff, this]; simp
  unfold strip2
  constructor
  · intro h
    cases hm : stripF p l with
    | nil => exact stripF_empty.1 hm
    | cons c r =>
      rw [hm] at h
      have hc := (h1 _).1 h c (by simp)
      rw [head_stripF hm] at hc; cases hc
  · intro h
    rw [stripF_empty.2 h]; rfl
/-- what the package's reading of a label at a place gives -/
def labelRes (s : ByteArray) (i : Nat) : Value :=
  match labelOf (s.data.toList.drop i) with
  | some e => .tuple #[.string ⟨(strip2 spaceB (((s.data.toList.drop i).take e).drop 1)).toArray⟩, .int .i64 ((i : Int) + e + 1), .bool true]
  | none => .tuple #[.string ⟨#[]⟩, .int .i64 0, .bool false]
theorem labelRes_none {s : ByteArray} {i : Nat} (h : labEnd (s.data.toList.drop (i + 1)) 1 = none) : labelRes s i = .tuple #[.string ⟨#[]⟩, .int .i64 0, .bool false] := by
  have : labelOf (s.data.toList.drop i) = none := by unfold labelOf; rw [List.drop_drop, h]
  unfold labelRes; rw [this]
theorem label_piece (l : List UInt8) (i k : Nat) (h : i ≤ k) : ((l.drop i).take (k - i)).drop 1 = (l.take k).drop (i + 1) := by
  rw [List.take_drop, List.drop_drop, show i + (k - i) = k from by omega]
theorem labelRes_empty {s : ByteArray} {i k : Nat} (hk : i ≤ k) (h : labEnd (s.data.toList.drop (i + 1)) 1 = some (k - i)) (he : strip2 spaceB ((s.data.toList.take k).drop (i + 1)) = []) :
    labelRes s i = .tuple #[.string ⟨#[]⟩, .int .i64 0, .bool false] := by
  have : labelOf (s.data.toList.drop i) = none := by
    unfold labelOf; rw [List.drop_drop, h]
    simp only [label_piece _ i k hk, he]; rfl
  unfold labelRes; rw [this]
theorem labelRes_some {s : ByteArray} {i k : Nat} (hk : i ≤ k) (h : labEnd (s.data.toList.drop (i + 1)) 1 = some (k - i)) (he : strip2 spaceB ((s.data.toList.take k).drop (i + 1)) ≠ []) :
    labelRes s i = .tuple #[.string ⟨(strip2 spaceB ((s.data.toList.take k).drop (i + 1))).toArray⟩, .int .i64 ((k : Int) + 1), .bool true] := by
  have : labelOf (s.data.toList.drop i) = some (k - i) := by
    unfold labelOf; rw [List.drop_drop, h]
    simp only [label_piece _ i k hk]
    cases hh : strip2 spaceB ((s.data.toList.take k).drop (i + 1)) with
    | nil => exact absurd hh he
    | cons _ _ => rfl
  unfold labelRes; rw [this]
  simp only [label_piece _ i k hk]
  rw [show (i : Int) + ((k - i : Nat) : Int) + 1 = (k : Int) + 1 from by omega]
end Go.Proofs.YtpdpkggojlpklaaDoor
