/- Addresses of electronic mail in plain words: labels of a host, hosts, addresses; the package's reading to the closing bracket and the reference's reading of what stands ahead of it agree. No program stands in this text. -/
import Derived.Test.YtpdpkggojlpklaaScan
namespace Go.Proofs.Ytpdpkggojlpklaa
open Go.RowKit
def signL : List UInt8 := [46, 33, 35, 36, 37, 38, 39, 42, 43, 47, 61, 63, 94, 95, 96, 123, 124, 125, 126, 45]
/-- a byte that may stand ahead of the @ -/
def userB (c : Int) : Bool := alnB c || signL.any fun d => c == (d.toNat : Int)
/-- a byte that may stand in angle brackets of an autolink -/
def gutB (c : Int) : Bool := c != 62 && c != 60 && c != 32 && !(decide (c < 32) || c == 127)
def lft (p : Int → Bool) (l : List UInt8) : List UInt8 := l.takeWhile fun c => p (c.toNat : Int)
def rgt (p : Int → Bool) (l : List UInt8) : List UInt8 := l.dropWhile fun c => p (c.toNat : Int)
theorem lft_rgt (p : Int → Bool) (l : List UInt8) : lft p l ++ rgt p l = l := List.takeWhile_append_dropWhile
/-- a label of a host: at most 63 bytes, a letter or digit at both ends -/
def okLab (a : List UInt8) : Bool := decide (a.length ≤ 63) && (a.head?.any fun c => alnB (c.toNat : Int)) && (a.getLast?.any fun c => alnB (c.toNat : Int))
/-- labels with full stops between them: what is left behind them -/
def hostF : Nat → List UInt8 → Option (List UInt8)
  | 0, _ => none
  | f + 1, l => if okLab (lft ldhB l) then (match rgt ldhB l with | [] => some [] | c :: r => if c = 46 then hostF f r else some (c :: r)) else none
theorem lft_at {p : Int → Bool} {c : UInt8} (hc : p (c.toNat : Int) = false) (t z : List UInt8) : lft p (t ++ c :: z) = lft p t := by
  unfold lft
  induction t with
  | nil => simp [hc]
  | cons d t ih => simp only [List.cons_append, List.takeWhile_cons, ih]
theorem rgt_at {p : Int → Bool} {c : UInt8} (hc : p (c.toNat : Int) = false) (t z : List UInt8) : rgt p (t ++ c :: z) = rgt p t ++ c :: z := by
  unfold rgt
  induction t with
  | nil => simp [hc]
  | cons d t ih =>
    simp only [List.cons_append, List.dropWhile_cons]
    split
    · exact ih
    · rfl
theorem hostF_at (z : List UInt8) : ∀ (f : Nat) (t : List UInt8), (∀ c ∈ t, c ≠ 62) → hostF f (t ++ 62 :: z) = (hostF f t).map (· ++ 62 :: z)
  | 0, _, _ => rfl
  | f + 1, t, ht => by
    have h1 : lft ldhB (t ++ 62 :: z) = lft ldhB t := lft_at rfl t z
    have h2 : rgt ldhB (t ++ 62 :: z) = rgt ldhB t ++ 62 :: z := rgt_at rfl t z
    rw [hostF, hostF, h1, h2]
    split
    · cases hr : rgt ldhB t with
      | nil => simp
      | cons c r =>
        have hmem : ∀ d ∈ r, d ≠ 62 := fun d hd => ht d (by rw [← lft_rgt ldhB t, hr]; simp [hd])
        simp only [List.cons_append]
        split
        · exact hostF_at z f r hmem
        · rfl
    · rfl
theorem hostF_more : ∀ (f g : Nat) (l : List UInt8), l.length < f → l.length < g → hostF f l = hostF g l
  | 0, _, _, h, _ => by omega
  | _ + 1, 0, _, _, h => by omega
  | f + 1, g + 1, l, h1, h2 => by
    rw [hostF, hostF]
    split
    · cases hr : rgt ldhB l with
      | nil => rfl
      | cons c r =>
        have hl : r.length + 1 ≤ l.length := by
          have := congrArg List.length (lft_rgt ldhB l); rw [hr] at this; simp at this; omega
        simp only
        split
        · exact hostF_more f g r (by omega) (by omega)
        · rfl
    · rfl
def hostL (l : List UInt8) : Option (List UInt8) := hostF (l.length + 1) l
/-- a part ahead of the @, the @, labels: what is left behind them -/
def mailL (l : List UInt8) : Option (List UInt8) :=
  if (lft userB l).isEmpty then none else (match rgt userB l with | [] => none | c :: r => if c = 64 then hostL r else none)
theorem hostL_at (z t : List UInt8) (ht : ∀ c ∈ t, c ≠ 62) : hostL (t ++ 62 :: z) = (hostL t).map (· ++ 62 :: z) := by
  unfold hostL
  rw [hostF_at z _ t ht, hostF_more _ (t.length + 1) t (by simp; omega) (by omega)]
theorem mailL_at (z t : List UInt8) (ht : ∀ c ∈ t, c ≠ 62) : mailL (t ++ 62 :: z) = (mailL t).map (· ++ 62 :: z) := by
  have h1 : lft userB (t ++ 62 :: z) = lft userB t := lft_at rfl t z
  have h2 : rgt userB (t ++ 62 :: z) = rgt userB t ++ 62 :: z := rgt_at rfl t z
  unfold mailL
  rw [h1, h2]
  split
  · rfl
  · cases hr : rgt userB t with
    | nil => simp
    | cons c r =>
      have hmem : ∀ d ∈ r, d ≠ 62 := fun d hd => ht d (by rw [← lft_rgt userB t, hr]; simp [hd])
      simp only [List.cons_append]
      split
      · exact hostL_at z r hmem
      · rfl
/-- what labels leave is an end of the text -/
theorem hostF_end : ∀ (f : Nat) (l r : List UInt8), hostF f l = some r → ∃ b, l = b ++ r ∧ ∀ c ∈ b, gutB (c.toNat : Int) = true
  | 0, _, _, h => by cases h
  | f + 1, l, r, h => by
    rw [hostF] at h
    split at h
    · have hin : ∀ c ∈ lft ldhB l, gutB (c.toNat : Int) = true := by
        intro c hc
        have := List.all_takeWhile (p := fun c : UInt8 => ldhB (c.toNat : Int)) (l := l)
        have h2 := List.all_eq_true.1 this c hc
        simp [ldhB, alnB, letB, upB, loB, digB, gutB] at h2 ⊢; omega
      cases hr : rgt ldhB l with
      | nil =>
        rw [hr] at h; injection h with h; subst h
        exact ⟨lft ldhB l, by have := lft_rgt ldhB l; rw [hr] at this; exact this.symm, hin⟩
      | cons c r' =>
        rw [hr] at h
        simp only at h
        split at h
        · rename_i hc
          subst hc
          obtain ⟨b, rfl, hb⟩ := hostF_end f r' r h
          refine ⟨lft ldhB l ++ 46 :: b, ?_, ?_⟩
          · have := lft_rgt ldhB l; rw [hr] at this; rw [List.append_assoc]; exact this.symm
          · intro d hd
            rcases List.mem_append.1 hd with hd | hd
            · exact hin d hd
            · rcases List.mem_cons.1 hd with rfl | hd
              · rfl
              · exact hb d hd
        · injection h with h; subst h
          exact ⟨lft ldhB l, by have := lft_rgt ldhB l; rw [hr] at this; exact this.symm, hin⟩
    · cases h
theorem user_in {c : Int} (h : userB c = true) : gutB c = true := by
  simp [userB, alnB, letB, upB, loB, digB, signL, gutB] at h ⊢; omega
theorem mailL_end (l r : List UInt8) (h : mailL l = some r) : ∃ b, l = b ++ r ∧ ∀ c ∈ b, gutB (c.toNat : Int) = true := by
  unfold mailL at h
  split at h
  · cases h
  · have hin : ∀ c ∈ lft userB l, gutB (c.toNat : Int) = true := by
      intro c hc
      have := List.all_takeWhile (p := fun c : UInt8 => userB (c.toNat : Int)) (l := l)
      exact user_in (List.all_eq_true.1 this c hc)
    cases hr : rgt userB l with
    | nil => rw [hr] at h; cases h
    | cons c r' =>
      rw [hr] at h
      simp only at h
      split at h
      · rename_i hc
        subst hc
        obtain ⟨b, rfl, hb⟩ := hostF_end _ r' r h
        refine ⟨lft userB l ++ 64 :: b, ?_, ?_⟩
        · have := lft_rgt userB l; rw [hr] at this; rw [List.append_assoc]; exact this.symm
        · intro d hd
          rcases List.mem_append.1 hd with hd | hd
          · exact hin d hd
          · rcases List.mem_cons.1 hd with rfl | hd
            · rfl
            · exact hb d hd
      · cases h
/-- the place of the closing bracket behind an address, of so many bytes in all: the package's way -/
def mailEnd (o : Option (List UInt8)) (n : Nat) : Option Nat := match o with | some (c :: r) => if c = 62 then some (n - (r.length + 1)) else none | _ => none
theorem takeWhile_all {p : UInt8 → Bool} : ∀ {t : List UInt8} {c : UInt8} {z : List UInt8}, (∀ d ∈ t, p d = true) → p c = false → (t ++ c :: z).takeWhile p = t
  | [], c, z, _, hc => by simp [hc]
  | d :: t, c, z, ht, hc => by
    rw [List.cons_append, List.takeWhile_cons, if_pos (ht d (by simp)), takeWhile_all (fun e he => ht e (by simp [he])) hc]
/-- the text up to the first byte that may not stand in an autolink -/
def gutL (l : List UInt8) : List UInt8 := lft gutB l
/-- it is an address, and a closing bracket stands behind it: the reference's way -/
def refMail (l : List UInt8) : Bool := (rgt gutB l).head? == some 62 && mailL (gutL l) == some []
theorem mailEnd_ref (l : List UInt8) : mailEnd (mailL l) l.length = if refMail l then some (gutL l).length else none := by
  cases hm : mailEnd (mailL l) l.length with
  | some n =>
    unfold mailEnd at hm
    cases hf : mailL l with
    | none => rw [hf] at hm; cases hm
    | some r =>
      rw [hf] at hm
      cases r with
      | nil => cases hm
      | cons c z =>
        simp only at hm
        split at hm
        · rename_i hc
          subst hc
          obtain ⟨b, hb, hin⟩ := mailL_end _ _ hf
          have hp : gutL l = b := by rw [hb]; exact takeWhile_all (p := fun c : UInt8 => gutB (c.toNat : Int)) hin rfl
          have hr : rgt gutB l = 62 :: z := by
            have := lft_rgt gutB l
            rw [show lft gutB l = b from hp] at this
            exact List.append_cancel_left (this.trans hb)
          have hne : ∀ c ∈ b, c ≠ 62 := fun c hc e => by have := hin c hc; subst e; cases this
          have hat := mailL_at z b hne
          rw [← hb, hf] at hat
          cases hbm : mailL b with
          | none => rw [hbm] at hat; cases hat
          | some q =>
            rw [hbm] at hat
            simp only [Option.map_some, Option.some.injEq] at hat
            have hq : q = [] := by
              have := congrArg List.length hat
              simp at this; exact this
            subst hq
            have hR : refMail l = true := by unfold refMail; rw [hp, hr, hbm]; rfl
            rw [if_pos hR, ← hm, hp]
            congr 1
            rw [hb]; simp
        · cases hm
  | none =>
    cases hR : refMail l with
    | false => rfl
    | true =>
      exfalso
      unfold refMail at hR
      simp only [Bool.and_eq_true, beq_iff_eq] at hR
      obtain ⟨h1, h2⟩ := hR
      cases hr : rgt gutB l with
      | nil => rw [hr] at h1; cases h1
      | cons c z =>
        rw [hr] at h1
        injection h1 with h1
        subst h1
        have hl : l = gutL l ++ 62 :: z := by have := lft_rgt gutB l; rw [hr] at this; exact this.symm
        have hne : ∀ c ∈ gutL l, c ≠ 62 := fun c hc e => by
          have := List.all_takeWhile (p := fun c : UInt8 => gutB (c.toNat : Int)) (l := l)
          have h3 := List.all_eq_true.1 this c hc
          subst e; cases h3
        have hat := mailL_at z (gutL l) hne
        rw [← hl, h2] at hat
        unfold mailEnd at hm
        rw [hat] at hm
        simp at hm
/-- a text that begins with letters and the like and goes on with a colon is no address -/
theorem not_mail_colon {a z : List UInt8} (ha : ∀ c ∈ a, userB (c.toNat : Int) = true) : mailL (a ++ 58 :: z) = none := by
  have h1 : rgt userB (a ++ 58 :: z) = 58 :: z := by
    unfold rgt
    induction a with
    | nil => rfl
    | cons d a ih =>
      rw [List.cons_append, List.dropWhile_cons, if_pos (ha d (by simp))]
      exact ih fun c hc => ha c (by simp [hc])
  unfold mailL
  rw [h1]
  split
  · rfl
  · rfl
/-! ### by places -/
theorem lft_scan (p : Int → Bool) (l : List UInt8) (k : Nat) : (lft p (l.drop k)).length = scan p l k - k := by unfold lft scan; omega
theorem rgt_scan (p : Int → Bool) (l : List UInt8) (k : Nat) : rgt p (l.drop k) = l.drop (scan p l k) := by
  have h := lft_rgt p (l.drop k)
  have h2 : l.drop (scan p l k) = (l.drop k).drop (lft p (l.drop k)).length := by rw [List.drop_drop]; rfl
  rw [h2]
  have h3 := congrArg (List.drop (lft p (l.drop k)).length) h
  simpa using h3
/-- a label of a host from k to e -/
def okAt (s : ByteArray) (k e : Nat) : Bool := decide (k < e) && decide (e ≤ k + 63) && atB alnB s k && atB alnB s (e - 1)
theorem lft_piece (p : Int → Bool) (s : ByteArray) (k : Nat) : lft p (s.data.toList.drop k) = (s.data.toList.drop k).take (scan p s.data.toList k - k) := by
  rw [← lft_scan]
  exact (List.prefix_iff_eq_take.1 (List.takeWhile_prefix _))
theorem okLab_at (s : ByteArray) (k : Nat) : okLab (lft ldhB (s.data.toList.drop k)) = okAt s k (scan ldhB s.data.toList k) := by
  have hle := le_scan ldhB s.data.toList k
  by_cases hk : k < s.size
  · have hsz := scan_size ldhB s k (by omega)
    rw [lft_piece]
    generalize scan ldhB s.data.toList k = e at *
    unfold okLab okAt
    have hlen : ((s.data.toList.drop k).take (e - k)).length = e - k := by simp; omega
    by_cases he : k < e
    · have hh : ((s.data.toList.drop k).take (e - k)).head? = some s[k] := by
        rw [drop_cons s k hk]
        cases hn : e - k with
        | zero => omega
        | succ n => rfl
      have hl : ((s.data.toList.drop k).take (e - k)).getLast? = some (s[e - 1]'(by omega)) := by
        rw [List.getLast?_eq_getElem?, hlen, List.getElem?_take, if_pos (by omega), List.getElem?_drop, show k + (e - k - 1) = e - 1 by omega]
        rw [List.getElem?_eq_getElem (by simp; omega)]; rfl
      rw [hh, hl, hlen, atB_of hk, atB_of (k := e - 1) (by omega)]
      have e1 : decide (k < e) = true := by simpa using he
      have e2 : decide (e - k ≤ 63) = decide (e ≤ k + 63) := by rw [Bool.eq_iff_iff]; simp; omega
      rw [e1, e2]; rfl
    · have he0 : e - k = 0 := by omega
      rw [he0]
      have e1 : decide (k < e) = false := by simpa using he
      rw [e1]; rfl
  · have : s.data.toList.drop k = [] := List.drop_eq_nil_of_le (by simp; omega)
    rw [this, scan_end _ _ _ (by omega)]
    unfold okAt
    have e1 : decide (k < k) = false := by simp
    rw [e1]; rfl
theorem hostL_step (s : ByteArray) (k : Nat) : hostL (s.data.toList.drop k) =
    if okAt s k (scan ldhB s.data.toList k) then (if h : scan ldhB s.data.toList k < s.size then (if s[scan ldhB s.data.toList k] = 46 then hostL (s.data.toList.drop (scan ldhB s.data.toList k + 1)) else some (s.data.toList.drop (scan ldhB s.data.toList k))) else some []) else none := by
  rw [← okLab_at]
  have e : hostL (s.data.toList.drop k) = hostF ((s.data.toList.drop k).length + 1) (s.data.toList.drop k) := rfl
  rw [e, hostF, rgt_scan]
  by_cases h : scan ldhB s.data.toList k < s.size
  · rw [dif_pos h, drop_cons s _ h]
    simp only
    have hle := le_scan ldhB s.data.toList k
    rw [hostF_more (s.data.toList.drop k).length ((s.data.toList.drop (scan ldhB s.data.toList k + 1)).length + 1) (s.data.toList.drop (scan ldhB s.data.toList k + 1)) (by simp; omega) (by omega)]
    rfl
  · rw [dif_neg h, List.drop_eq_nil_of_le (as := s.data.toList) (i := scan ldhB s.data.toList k) (by simp; omega)]
theorem mailL_step (s : ByteArray) (k : Nat) : mailL (s.data.toList.drop k) =
    if scan userB s.data.toList k = k then none else (if h : scan userB s.data.toList k < s.size then (if s[scan userB s.data.toList k] = 64 then hostL (s.data.toList.drop (scan userB s.data.toList k + 1)) else none) else none) := by
  unfold mailL
  rw [rgt_scan]
  have hle := le_scan userB s.data.toList k
  have hl := lft_scan userB s.data.toList k
  have he : (lft userB (s.data.toList.drop k)).isEmpty = decide (scan userB s.data.toList k = k) := by
    rw [Bool.eq_iff_iff, List.isEmpty_iff_length_eq_zero, hl]; simp; omega
  rw [he]
  by_cases h0 : scan userB s.data.toList k = k
  · rw [if_pos h0, if_pos (by simpa using h0)]
  · rw [if_neg h0, if_neg (by simpa using h0)]
    split
    · rename_i h
      rw [List.drop_eq_nil_iff] at h
      rw [dif_neg (by simp at h; omega)]
    · rename_i c r h
      by_cases hlt : scan userB s.data.toList k < s.size
      · rw [dif_pos hlt]
        rw [drop_cons s _ hlt] at h
        injection h with h1 h2
        rw [← h1, ← h2]
      · rw [List.drop_eq_nil_of_le (by simp; omega)] at h; cases h
end Go.Proofs.Ytpdpkggojlpklaa
