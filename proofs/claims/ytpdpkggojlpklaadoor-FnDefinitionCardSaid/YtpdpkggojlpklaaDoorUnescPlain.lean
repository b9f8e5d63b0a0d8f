/- Backslash escapes and character references, as plain functions of lists of bytes: what a text means. No program stands in this text. -/
import Derived.Test.YtpdpkggojlpklaaDoorScan
namespace Go.Proofs.YtpdpkggojlpklaaDoor
open Go.RowKit
/-- a backslash ahead of each punctuation character -/
def escL : List UInt8 → List UInt8
  | [] => []
  | c :: l => if punctB (c.toNat : Int) then 92 :: c :: escL l else c :: escL l
/-- the list begins with a punctuation character -/
def headP : List UInt8 → Bool
  | [] => false
  | d :: _ => punctB (d.toNat : Int)
/-- what a text means: a backslash ahead of punctuation is this character; what begins with & is what 'ent' says of the bytes behind it (its text, and how many bytes of those it takes); other bytes mean themselves. The first number: so many bytes are skipped. -/
def rp (ent : List UInt8 → Option (List UInt8 × Nat)) : Nat → List UInt8 → List UInt8
  | _, [] => []
  | n + 1, _ :: l => rp ent n l
  | 0, c :: l =>
    if c == 92 && headP l then l.headD 0 :: rp ent 1 l
    else if c == 38 then
      match ent l with
      | some (r, n) => r ++ rp ent n l
      | none => c :: rp ent 0 l
    else c :: rp ent 0 l
theorem rp_skip (ent : List UInt8 → Option (List UInt8 × Nat)) : ∀ (n : Nat) (l : List UInt8), rp ent n l = rp ent 0 (l.drop n)
  | 0, _ => rfl
  | n + 1, [] => by simp [rp]
  | n + 1, c :: l => by rw [List.drop_succ_cons, ← rp_skip ent n l]; rfl
section
variable {ent : List UInt8 → Option (List UInt8 × Nat)}
theorem rp_nil : rp ent 0 [] = [] := rfl
theorem rp_esc {c d : UInt8} {l : List UInt8} (hc : c = 92) (hd : punctB (d.toNat : Int) = true) : rp ent 0 (c :: d :: l) = d :: rp ent 0 l := by
  subst hc; rw [rp, if_pos (by simp [headP, hd])]; rfl
theorem rp_amp {c : UInt8} {l r : List UInt8} {n : Nat} (hc : c = 38) (h : ent l = some (r, n)) : rp ent 0 (c :: l) = r ++ rp ent 0 (l.drop n) := by
  subst hc; rw [rp, if_neg (by simp), if_pos (by simp), h]; simp only; rw [rp_skip]
theorem rp_amp_no {c : UInt8} {l : List UInt8} (hc : c = 38) (h : ent l = none) : rp ent 0 (c :: l) = c :: rp ent 0 l := by
  subst hc; rw [rp, if_neg (by simp), if_pos (by simp), h]
theorem rp_other {c : UInt8} {l : List UInt8} (h1 : (c == 92 && headP l) = false) (h2 : c ≠ 38) : rp ent 0 (c :: l) = c :: rp ent 0 l := by
  rw [rp, if_neg (by simp [h1]), if_neg (by simpa using h2)]
theorem punct_esc : punctB ((92 : UInt8).toNat : Int) = true := by decide
theorem punct_amp : punctB ((38 : UInt8).toNat : Int) = true := by decide
/-- an escaped text means what it was -/
theorem rp_escL : ∀ l : List UInt8, rp ent 0 (escL l) = l
  | [] => rfl
  | c :: l => by
    unfold escL
    cases hp : punctB (c.toNat : Int) with
    | true => rw [if_pos rfl, rp_esc rfl hp, rp_escL l]
    | false =>
      rw [if_neg (by simp), rp_other, rp_escL l]
      · have : c ≠ 92 := fun h => by rw [h, punct_esc] at hp; cases hp
        simp [this]
      · intro h; rw [h, punct_amp] at hp; cases hp
/-- a text without backslashes and & means itself -/
theorem rp_plain : ∀ l : List UInt8, (92 : UInt8) ∉ l → (38 : UInt8) ∉ l → rp ent 0 l = l
  | [], _, _ => rfl
  | c :: l, h1, h2 => by
    simp only [List.mem_cons, not_or] at h1 h2
    rw [rp_other, rp_plain l h1.2 h2.2]
    · simp [Ne.symm h1.1]
    · exact Ne.symm h2.1
/-- of one text two readings of & agree where they agree behind each & -/
theorem rp_congr {ent' : List UInt8 → Option (List UInt8 × Nat)} : ∀ (n : Nat) (l : List UInt8), l.length ≤ n → (∀ m x, l = m ++ (38 : UInt8) :: x → ent x = ent' x) → rp ent 0 l = rp ent' 0 l
  | _, [], _, _ => rfl
  | 0, _ :: _, h, _ => by simp at h
  | n + 1, c :: l, h, he => by
    simp only [List.length_cons, Nat.add_le_add_iff_right] at h
    have ih : ∀ k, rp ent 0 (l.drop k) = rp ent' 0 (l.drop k) := fun k =>
      rp_congr n (l.drop k) (by rw [List.length_drop]; omega) (fun m x hm => he (c :: l.take k ++ m) x (by rw [List.cons_append, List.cons_append, List.append_assoc, ← hm, List.take_append_drop]))
    have i0 := ih 0
    have i1 := ih 1
    simp only [List.drop_zero] at i0
    cases hb : (c == 92 && headP l) with
    | true =>
      simp only [Bool.and_eq_true, beq_iff_eq] at hb
      match l, hb with
      | d :: l', ⟨h1, h2⟩ => rw [rp_esc h1 h2, rp_esc h1 h2]; exact congrArg _ i1
    | false =>
      by_cases ha : c = 38
      · have e := he [] l (by rw [ha]; rfl)
        cases hn : ent l with
        | none => rw [rp_amp_no ha hn, rp_amp_no ha (e ▸ hn), i0]
        | some q => obtain ⟨r, k⟩ := q; rw [rp_amp ha hn, rp_amp ha (e ▸ hn), ih k]
      · rw [rp_other hb ha, rp_other hb ha, i0]
end
/-! ### the same by the places of a string -/
def rpAt (ent : List UInt8 → Option (List UInt8 × Nat)) (s : ByteArray) (k : Nat) : List UInt8 := rp ent 0 (s.data.toList.drop k)
section
variable {ent : List UInt8 → Option (List UInt8 × Nat)} {s : ByteArray} {k : Nat}
theorem rpAt_end (h : s.size ≤ k) : rpAt ent s k = [] := by
  unfold rpAt; rw [List.drop_eq_nil_of_le (by simpa using h)]; rfl
/-- a backslash at the place escapes the next byte -/
def escAt (s : ByteArray) (k : Nat) : Bool := atB (fun c => c == 92) s k && atB punctB s (k + 1)
theorem escAt_lt (h : escAt s k = true) : k + 1 < s.size := by
  simp only [escAt, Bool.and_eq_true] at h; exact atB_lt h.2
theorem u8_of {c : UInt8} {n : Nat} (h : (c.toNat : Int) = n) (hn : n < 256) : c = UInt8.ofNat n := by
  apply UInt8.toNat_inj.1; rw [UInt8.toNat_ofNat']; omega
theorem rpAt_esc (h : escAt s k = true) : rpAt ent s k = (s[k + 1]'(escAt_lt h)) :: rpAt ent s (k + 2) := by
  have hl := escAt_lt h
  simp only [escAt, Bool.and_eq_true] at h
  obtain ⟨h1, h2⟩ := h
  rw [atB_of (by omega), beq_iff_eq] at h1
  rw [atB_of hl] at h2
  unfold rpAt
  rw [drop_cons s k (by omega), drop_cons s (k + 1) hl]
  exact rp_esc (u8_of (n := 92) h1 (by decide)) h2
theorem headP_at (h : k < s.size) : headP (s.data.toList.drop (k + 1)) = atB punctB s (k + 1) := by
  by_cases hl : k + 1 < s.size
  · rw [drop_cons s (k + 1) hl, atB_of hl]; rfl
  · rw [List.drop_eq_nil_of_le (by simp; omega), atB_off hl]; rfl
theorem rpAt_amp (h : k < s.size) (hc : (s[k].toNat : Int) = 38) {r : List UInt8} {n : Nat} (he : ent (s.data.toList.drop (k + 1)) = some (r, n)) : rpAt ent s k = r ++ rpAt ent s (k + 1 + n) := by
  unfold rpAt
  rw [drop_cons s k h, rp_amp (u8_of (n := 38) hc (by decide)) he, List.drop_drop]
theorem rpAt_amp_no (h : k < s.size) (hc : (s[k].toNat : Int) = 38) (he : ent (s.data.toList.drop (k + 1)) = none) : rpAt ent s k = s[k] :: rpAt ent s (k + 1) := by
  unfold rpAt
  rw [drop_cons s k h, rp_amp_no (u8_of (n := 38) hc (by decide)) he]
theorem rpAt_other (h : k < s.size) (he : escAt s k = false) (hc : (s[k].toNat : Int) ≠ 38) : rpAt ent s k = s[k] :: rpAt ent s (k + 1) := by
  unfold rpAt
  rw [drop_cons s k h]
  refine rp_other ?_ (fun e => hc (by rw [e]; rfl))
  rw [headP_at h]
  rw [escAt, atB_of h] at he
  rw [← he]
  congr 1
  rw [Bool.eq_iff_iff]; simp only [beq_iff_eq]
  exact ⟨fun e => by rw [e]; rfl, fun e => u8_of (n := 92) e (by decide)⟩
end
/-! ### the package's table of names -/
def entTab : List (List UInt8 × List UInt8) := [([38, 97, 109, 112, 59], [38]), ([38, 97, 112, 111, 115, 59], [39]), ([38, 99, 111, 112, 121, 59], [194, 169]), ([38, 102, 114, 97, 99, 51, 52, 59], [194, 190]), ([38, 103, 116, 59], [62]), ([38, 104, 101, 108, 108, 105, 112, 59], [226, 128, 166]), ([38, 108, 116, 59], [60]), ([38, 109, 100, 97, 115, 104, 59], [226, 128, 148]), ([38, 110, 98, 115, 112, 59], [194, 160]), ([38, 110, 100, 97, 115, 104, 59], [226, 128, 147]), ([38, 113, 117, 111, 116, 59], [34]), ([38, 114, 101, 103, 59], [194, 174])]
/-- the first entry from so many on of this name -/
def look (i : Nat) (n : List UInt8) : Option (List UInt8) := ((entTab.drop i).find? fun e => e.1 == n).map (·.2)
theorem look_end (n : List UInt8) : look 12 n = none := rfl
theorem look_yes {i : Nat} {n : List UInt8} (h : i < 12) (hn : (entTab[i]'h).1 = n) : look i n = some (entTab[i]'h).2 := by
  unfold look; rw [List.drop_eq_getElem_cons (show i < entTab.length from h), List.find?_cons_of_pos (by rw [beq_iff_eq]; exact hn)]; rfl
theorem look_no {i : Nat} {n : List UInt8} (h : i < 12) (hn : (entTab[i]'h).1 ≠ n) : look i n = look (i + 1) n := by
  unfold look; rw [List.drop_eq_getElem_cons (show i < entTab.length from h), List.find?_cons_of_neg (by rw [beq_iff_eq]; exact hn)]
theorem look_short {i : Nat} {n r : List UInt8} (h : look i n = some r) : r.length ≤ 3 := by
  unfold look at h
  obtain ⟨e, he, rfl⟩ := Option.map_eq_some_iff.1 h
  have hm : e ∈ entTab := List.mem_of_mem_drop (List.mem_of_find?_eq_some he)
  have : entTab.all (fun e => decide (e.2.length ≤ 3)) = true := by decide
  simpa using List.all_eq_true.1 this e hm
/-- what the package takes the bytes behind an & for: the name up to the first semicolon -/
def entP (l : List UInt8) : Option (List UInt8 × Nat) :=
  let j := (l.takeWhile fun c => (c.toNat : Int) != 59).length
  if j < l.length then (look 0 (38 :: l.take (j + 1))).map fun r => (r, j + 1) else none
end Go.Proofs.YtpdpkggojlpklaaDoor
