/- Titles, as plain functions of lists of bytes: the reference's reading of names of characters, that the package's table agrees with it, where a title ends. No program stands in this text. -/
import Derived.Test.YtpdpkggojlpklaaDoorUnescPlain
namespace Go.Proofs.YtpdpkggojlpklaaDoor
open Go.RowKit
/-! ### takeWhile by places -/
section
variable {α : Type} {p : α → Bool}
theorem tw_len : ∀ (l : List α) (m : Nat) (d : α), (∀ c ∈ l.take m, p c = true) → l[m]? = some d → p d = false → (l.takeWhile p).length = m
  | [], m, d, _, h, _ => by simp at h
  | c :: l, 0, d, _, h, hd => by
    simp only [List.getElem?_cons_zero, Option.some.injEq] at h
    subst h; rw [List.takeWhile_cons, if_neg (by simp [hd])]; rfl
  | c :: l, m + 1, d, ha, h, hd => by
    rw [List.takeWhile_cons, if_pos (ha c (by simp))]
    have := tw_len l m d (fun x hx => ha x (by rw [List.take_succ_cons]; exact List.mem_cons_of_mem _ hx)) (by simpa using h) hd
    simp [this]
theorem tw_take (l : List α) : l.take (l.takeWhile p).length = l.takeWhile p := by
  have h := List.takeWhile_prefix p (l := l)
  exact (List.prefix_iff_eq_take.1 h).symm
theorem tw_all (l : List α) : ∀ c ∈ l.take (l.takeWhile p).length, p c = true := by
  rw [tw_take]; intro c hc
  induction l with
  | nil => simp at hc
  | cons d l ih =>
    rw [List.takeWhile_cons] at hc
    split at hc
    · rcases List.mem_cons.1 hc with rfl | h
      · assumption
      · exact ih h
    · simp at hc
theorem tw_stop : ∀ (l : List α), (l.takeWhile p).length < l.length → ∃ d, l[(l.takeWhile p).length]? = some d ∧ p d = false
  | [], h => by simp at h
  | c :: l, h => by
    cases hc : p c with
    | true =>
      rw [List.takeWhile_cons, if_pos hc] at h ⊢
      obtain ⟨d, h1, h2⟩ := tw_stop l (by simpa using h)
      exact ⟨d, by simpa using h1, h2⟩
    | false =>
      refine ⟨c, ?_, hc⟩
      rw [List.takeWhile_cons, if_neg (by simp [hc])]; rfl
end
/-! ### names of characters -/
def alnC (c : UInt8) : Bool := alnB (c.toNat : Int)
def alnN (l : List UInt8) : Nat := (l.takeWhile alnC).length
/-- what the reference takes a name for; nothing for other names -/
def namedOf (n : List UInt8) : List UInt8 := if n == [97, 109, 112] then [38] else if n == [108, 116] then [60] else if n == [103, 116] then [62] else if n == [113, 117, 111, 116] then [34] else []
/-- what the reference takes the bytes behind an & for -/
def entS (l : List UInt8) : Option (List UInt8 × Nat) :=
  if 0 < alnN l ∧ l[alnN l]? = some 59 ∧ namedOf (l.take (alnN l)) ≠ [] then some (namedOf (l.take (alnN l)), alnN l + 1) else none
/-- a name that the reference does not know -/
def BadN (l : List UInt8) : Prop := 0 < alnN l ∧ l[alnN l]? = some 59 ∧ namedOf (l.take (alnN l)) = []
theorem aln_semi : alnC 59 = false := by decide
theorem tab_form : entTab.all (fun e => e.1 == 38 :: (((e.1.drop 1).dropLast) ++ [59]) && (e.1.drop 1).dropLast.all alnC && decide (0 < (e.1.drop 1).dropLast.length) && (namedOf ((e.1.drop 1).dropLast) == [] || e.2 == namedOf ((e.1.drop 1).dropLast))) = true := by decide
theorem look_some {n r : List UInt8} (h : look 0 n = some r) : ∃ mid, n = 38 :: (mid ++ [59]) ∧ (∀ c ∈ mid, alnC c = true) ∧ 0 < mid.length ∧ (namedOf mid = [] ∨ r = namedOf mid) := by
  unfold look at h
  obtain ⟨e, he, rfl⟩ := Option.map_eq_some_iff.1 h
  have hm : e ∈ entTab := List.mem_of_mem_drop (List.mem_of_find?_eq_some he)
  have hn : e.1 = n := by have := List.find?_some he; simpa using this
  have hf := List.all_eq_true.1 tab_form e hm
  simp only [Bool.and_eq_true, Bool.or_eq_true, beq_iff_eq, decide_eq_true_eq] at hf
  obtain ⟨⟨⟨h1, h2⟩, h3⟩, h4⟩ := hf
  exact ⟨_, hn ▸ h1, fun c hc => List.all_eq_true.1 h2 c hc, h3, h4⟩
theorem look_named {m : List UInt8} (h : namedOf m ≠ []) : (look 0 (38 :: (m ++ [59]))).isSome = true := by
  unfold namedOf at h
  split at h
  · rename_i e; rw [beq_iff_eq] at e; subst e; decide
  · split at h
    · rename_i e; rw [beq_iff_eq] at e; subst e; decide
    · split at h
      · rename_i e; rw [beq_iff_eq] at e; subst e; decide
      · split at h
        · rename_i e; rw [beq_iff_eq] at e; subst e; decide
        · exact absurd rfl h
def nsemiC (c : UInt8) : Bool := (c.toNat : Int) != 59
theorem nsemiC_aln {c : UInt8} (h : alnC c = true) : nsemiC c = true := by
  cases hc : nsemiC c with
  | true => rfl
  | false =>
    unfold nsemiC at hc
    rw [bne_eq_false_iff_eq] at hc
    rw [u8_of (n := 59) hc (by decide)] at h
    cases h
theorem nsemiC_semi {c : UInt8} (h : nsemiC c = false) : c = 59 := by
  unfold nsemiC at h
  rw [bne_eq_false_iff_eq] at h
  exact u8_of (n := 59) h (by decide)
theorem take_semi {l : List UInt8} {m : Nat} (h : l[m]? = some 59) : l.take (m + 1) = l.take m ++ [59] := by
  have hm : m < l.length := by
    rcases Nat.lt_or_ge m l.length with h' | h'
    · exact h'
    · rw [List.getElem?_eq_none h'] at h; cases h
  rw [List.take_succ_eq_append_getElem hm]
  rw [List.getElem?_eq_getElem hm] at h
  rw [Option.some.inj h]
/-- where a text has no name that the reference does not know, the package's table and the reference agree, in every piece of it, too -/
theorem ent_agree (y : List UInt8) (n : Nat) (hy : ¬ BadN y) : entP (y.take n) = entS (y.take n) := by
  generalize hx : y.take n = x
  have hP : entP x = if (x.takeWhile nsemiC).length < x.length then (look 0 (38 :: x.take ((x.takeWhile nsemiC).length + 1))).map fun r => (r, (x.takeWhile nsemiC).length + 1) else none := rfl
  rw [hP]
  by_cases hj : (x.takeWhile nsemiC).length < x.length
  · rw [if_pos hj]
    obtain ⟨d, hd, hd2⟩ := tw_stop (p := nsemiC) x hj
    rw [nsemiC_semi hd2] at hd
    rw [take_semi hd]
    cases hl : look 0 (38 :: (x.take (x.takeWhile nsemiC).length ++ [59])) with
    | some r =>
      obtain ⟨mid, h1, h2, h3, h4⟩ := look_some hl
      have hmid : mid = x.take (x.takeWhile nsemiC).length := by
        injection h1 with _ h1; exact (List.append_cancel_right h1).symm
      rw [hmid] at h2 h3 h4
      generalize (x.takeWhile nsemiC).length = J at *
      have hax : alnN x = J := tw_len x J 59 h2 hd aln_semi
      have hJ : J < n := by
        have : x.length ≤ n := by rw [← hx, List.length_take]; omega
        omega
      have hyt : y.take J = x.take J := by rw [← hx, List.take_take, Nat.min_eq_left (by omega)]
      have hyd : y[J]? = some 59 := by rw [← hd, ← hx, List.getElem?_take_of_lt hJ]
      have hay : alnN y = J := tw_len y J 59 (by rw [hyt]; exact h2) hyd aln_semi
      have h0 : 0 < J := by
        rw [List.length_take] at h3; omega
      have hn : namedOf (x.take J) ≠ [] := fun e => hy (by unfold BadN; rw [hay]; exact ⟨h0, hyd, by rw [hyt]; exact e⟩)
      have hr : r = namedOf (x.take J) := h4.resolve_left hn
      unfold entS
      rw [hax, if_pos ⟨h0, hd, hn⟩, hr]; rfl
    | none =>
      unfold entS
      rw [if_neg]; · rfl
      rintro ⟨e1, e2, e3⟩
      have hJ : (x.takeWhile nsemiC).length = alnN x := tw_len x _ 59 (fun c hc => nsemiC_aln (tw_all x c hc)) e2 rfl
      rw [hJ] at hl
      have := look_named e3
      rw [hl] at this; cases this
  · rw [if_neg hj]
    unfold entS
    rw [if_neg]
    rintro ⟨e1, e2, e3⟩
    have hJ : (x.takeWhile nsemiC).length = alnN x := tw_len x _ 59 (fun c hc => nsemiC_aln (tw_all x c hc)) e2 rfl
    rw [hJ] at hj
    rw [List.getElem?_eq_none (by omega)] at e2; cases e2
/-! ### where a title ends -/
/-- the place of the byte that ends a title: backslash escapes are passed over; an opening parenthesis ends a title in parentheses without success. (The first number: so many bytes are skipped; the second: the place.) -/
def tE (want : Int) (paren : Bool) : Nat → Nat → List UInt8 → Option Nat
  | _, _, [] => none
  | n + 1, k, _ :: l => tE want paren n (k + 1) l
  | 0, k, c :: l => if c == 92 && headP l then tE want paren 1 (k + 1) l else if (c.toNat : Int) == want then some k else if paren && (c.toNat : Int) == 40 then none else tE want paren 0 (k + 1) l
theorem tE_shift (want : Int) (paren : Bool) (m : Nat) : ∀ (n k : Nat) (l : List UInt8), tE want paren n (k + m) l = (tE want paren n k l).map (· + m)
  | _, _, [] => by simp [tE]
  | n + 1, k, c :: l => by
    rw [tE, tE, Nat.add_right_comm]; exact tE_shift want paren m n (k + 1) l
  | 0, k, c :: l => by
    rw [tE, tE]
    have h1 := tE_shift want paren m 1 (k + 1) l
    have h0 := tE_shift want paren m 0 (k + 1) l
    rw [Nat.add_right_comm k 1 m] at h0 h1
    rw [h0, h1]
    split
    · rfl
    · split
      · rfl
      · split <;> rfl
def tAt (want : Int) (paren : Bool) (s : ByteArray) (k : Nat) : Option Nat := tE want paren 0 k (s.data.toList.drop k)
section
variable {want : Int} {paren : Bool} {s : ByteArray} {k : Nat}
theorem tAt_end (h : s.size ≤ k) : tAt want paren s k = none := by
  unfold tAt; rw [List.drop_eq_nil_of_le (by simpa using h)]; rfl
theorem esc_test (h : k < s.size) : (s[k] == 92 && headP (s.data.toList.drop (k + 1))) = escAt s k := by
  rw [headP_at h, escAt, atB_of h]
  congr 1
  rw [Bool.eq_iff_iff]; simp only [beq_iff_eq]
  exact ⟨fun e => by rw [e]; rfl, fun e => u8_of (n := 92) e (by decide)⟩
theorem tAt_esc (h : escAt s k = true) : tAt want paren s k = tAt want paren s (k + 2) := by
  have hl := escAt_lt h
  unfold tAt
  rw [drop_cons s k (by omega), tE, esc_test (by omega), h, if_pos rfl, drop_cons s (k + 1) hl]; rfl
theorem tAt_hit (h : k < s.size) (he : escAt s k = false) (hw : (s[k].toNat : Int) = want) : tAt want paren s k = some k := by
  unfold tAt
  rw [drop_cons s k h, tE, esc_test h, he, if_neg (by simp), if_pos (by simpa using hw)]
theorem tAt_open (h : k < s.size) (he : escAt s k = false) (hw : (s[k].toNat : Int) ≠ want) (hp : paren = true) (h4 : (s[k].toNat : Int) = 40) : tAt want paren s k = none := by
  unfold tAt
  rw [drop_cons s k h, tE, esc_test h, he, if_neg (by simp), if_neg (by simpa using hw), if_pos (by simp [hp, h4])]
theorem tAt_next (h : k < s.size) (he : escAt s k = false) (hw : (s[k].toNat : Int) ≠ want) (hp : ¬ (paren = true ∧ (s[k].toNat : Int) = 40)) : tAt want paren s k = tAt want paren s (k + 1) := by
  unfold tAt
  rw [drop_cons s k h, tE, esc_test h, he, if_neg (by simp), if_neg (by simpa using hw), if_neg (by simpa using hp)]
/-- the package passes over whatever byte stands behind a backslash -/
theorem tAt_skip (h : k + 1 < s.size) (hw : want = 34 ∨ want = 39 ∨ want = 41) (hb : (s[k].toNat : Int) = 92) : tAt want paren s k = tAt want paren s (k + 2) := by
  cases he : escAt s k with
  | true => exact tAt_esc he
  | false =>
    have hnp : punctB (s[k + 1].toNat : Int) = false := by
      rw [escAt, atB_of (by omega), atB_of h, hb] at he; simpa using he
    rw [tAt_next (by omega) he (by omega) (by omega)]
    have hne : ∀ n : Int, punctB n = true → (s[k + 1].toNat : Int) ≠ n := fun n hn e => by rw [e, hn] at hnp; cases hnp
    refine tAt_next h ?_ ?_ ?_
    · rw [escAt, atB_of h, beq_eq_false_iff_ne.2 (hne 92 (by decide)), Bool.false_and]
    · rcases hw with rfl | rfl | rfl <;> exact hne _ (by decide)
    · exact fun h => hne 40 (by decide) h.2
end
/-! ### blank lines -/
/-- behind a line feed, and spaces behind it -/
def bAt (s : ByteArray) : Nat → Bool
  | 0 => false
  | k + 1 => atB (fun c => c == 10) s k || (bAt s k && atB (fun c => c == 32) s k)
/-- no line feed stands where only spaces, and a line feed, stand ahead -/
def NoGap (s : ByteArray) : Prop := ∀ (k : Nat) (h : k < s.size), (s[k].toNat : Int) = 10 → bAt s k = false
theorem atB_tail {p : Int → Bool} {s : ByteArray} {i k : Nat} : atB p (s.extract i s.size) k = atB p s (i + k) := by
  by_cases h : i + k < s.size
  · have h' : k < (s.extract i s.size).size := by rw [ByteArray.size_extract]; omega
    rw [atB_of h, atB_of h']
    rw [ByteArray.getElem_extract]
  · rw [atB_off h, atB_off (by rw [ByteArray.size_extract]; omega)]
theorem bAt_tail {s : ByteArray} {i : Nat} : ∀ k : Nat, bAt (s.extract i s.size) k = true → bAt s (i + k) = true
  | 0, h => by simp [bAt] at h
  | k + 1, h => by
    rw [bAt] at h
    rw [show i + (k + 1) = (i + k) + 1 from rfl, bAt, ← atB_tail, ← atB_tail]
    simp only [Bool.or_eq_true, Bool.and_eq_true] at h ⊢
    exact h.imp id fun h => ⟨bAt_tail k h.1, h.2⟩
theorem NoGap.tail {s : ByteArray} (h : NoGap s) (i : Nat) : NoGap (s.extract i s.size) := by
  intro k hk hc
  cases hb : bAt (s.extract i s.size) k with
  | false => rfl
  | true =>
    have h1 := bAt_tail k hb
    rw [ByteArray.size_extract] at hk
    rw [ByteArray.getElem_extract] at hc
    rw [h (i + k) (by omega) hc] at h1; cases h1
end Go.Proofs.YtpdpkggojlpklaaDoor
