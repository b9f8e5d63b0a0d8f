/- FnTableOuter's walk: for every row it returns true and leaves memory below as it was. -/
import Derived.Test.YtigeaoijcjidbaaPrintable
import Derived.Test.YtigeaoijcjidbaaWithout
import Derived.Test.YtigeaoijcjidbaaStrip
import Derived.Test.YtigeaoijcjidbaaTrims
namespace Go.Proofs.Ytigeaoijcjidbaa
open Go.RowKit
def cutHead (x : ByteArray) : ByteArray := if h : 0 < x.size then (if (x[0].toNat : Int) = 124 then x.extract 1 x.size else x) else x
def cutLast (x : ByteArray) : ByteArray := if h : 0 < x.size then (if (x[x.size - 1].toNat : Int) = 124 then x.extract 0 (x.size - 1) else x) else x
theorem size_mk (l : List UInt8) : (⟨l.toArray⟩ : ByteArray).size = l.length := rfl
theorem stripF_len (p : Int → Bool) (l : List UInt8) : (stripF p l).length ≤ l.length := (List.dropWhile_sublist _).length_le
theorem stripE_len (p : Int → Bool) (l : List UInt8) : (stripE p l).length ≤ l.length := by
  unfold stripE; rw [List.length_reverse]; exact Nat.le_trans (List.dropWhile_sublist _).length_le (by simp)
theorem md_tableTrimOuter (s x : ByteArray) (w : World) (hs : s.size ≤ maxLen) (hx : x = ⟨(stripE tabspB (stripF tabspB s.data.toList)).toArray⟩) :
    Calls Try.prog 79 #[.string s] w fun e w' => e = .returned (.string (cutLast (cutHead x))) ∧ w = w' := by
  have hxs : x.size ≤ 9223372036854775807 := by
    subst hx; rw [size_mk]
    have h1 := stripE_len tabspB (stripF tabspB s.data.toList)
    have h2 := stripF_len tabspB s.data.toList
    have h3 : s.data.toList.length = s.size := by simp
    unfold maxLen at hs; omega
  have H := Lib.hid (md_tableTrimSpace s w hs)
  rw [← hx] at H
  clear hx hs
  go_enter Try.func79, Try.ntmps79
  go_wp2_with (go_at_call 98; refine H.out.mono ?_; rintro e w' ⟨rfl, rfl⟩)
  all_goals (go_ret; refine ⟨ret_str ?_, rfl⟩; first | (simp_all [cutHead, cutLast]; done) | (simp_all [cutHead, cutLast]; omega))
theorem md_ZZTableTrimOuter (s x : ByteArray) (w : World) (hs : s.size ≤ maxLen) (hx : x = ⟨(stripE tabspB (stripF tabspB s.data.toList)).toArray⟩) :
    Calls Try.prog 55 #[.string s] w fun e w' => e = .returned (.string (cutLast (cutHead x))) ∧ w = w' := by
  have H := Lib.hid (md_tableTrimOuter s x w hs hx)
  clear hx hs
  go_enter Try.func55, Try.ntmps55
  go_wp2_with (go_at_call 79; refine H.out.mono ?_; rintro e w' ⟨rfl, rfl⟩)
  go_ret
  exact ⟨rfl, rfl⟩
theorem impl_TableTrimOuter (s x : ByteArray) (w : World) (hs : s.size ≤ maxLen) (hx : x = ⟨(stripE tabspB (stripF tabspB s.data.toList)).toArray⟩) :
    Calls Try.prog 24 #[.string s] w fun e w' => e = .returned (.string (cutLast (cutHead x))) ∧ w = w' := by
  have H := Lib.hid (md_ZZTableTrimOuter s x w hs hx)
  clear hx hs
  go_enter Try.func24, Try.ntmps24
  go_wp2_with (go_at_call 55; refine H.out.mono ?_; rintro e w' ⟨rfl, rfl⟩)
  go_ret
  exact ⟨rfl, rfl⟩
theorem stripF_congr (p q : Int → Bool) : ∀ l : List UInt8, (∀ c ∈ l, p (c.toNat : Int) = q (c.toNat : Int)) → stripF p l = stripF q l
  | [], _ => rfl
  | c :: l, h => by
    have hc := h c (by simp)
    have ih := stripF_congr p q l (fun d hd => h d (by simp [hd]))
    cases hp : p (c.toNat : Int) with
    | true => rw [stripF_cons_yes hp, stripF_cons_yes (by rw [← hc]; exact hp), ih]
    | false => rw [stripF_cons_no hp, stripF_cons_no (by rw [← hc]; exact hp)]
theorem stripE_eq (p : Int → Bool) (l : List UInt8) : stripE p l = (stripF p l.reverse).reverse := rfl
theorem stripE_congr (p q : Int → Bool) (l : List UInt8) (h : ∀ c ∈ l, p (c.toNat : Int) = q (c.toNat : Int)) : stripE p l = stripE q l := by
  rw [stripE_eq, stripE_eq, stripF_congr p q _ (fun c hc => h c (by simpa using hc))]
theorem mem_stripF {p : Int → Bool} {l : List UInt8} {c : UInt8} (h : c ∈ stripF p l) : c ∈ l := (List.dropWhile_sublist _).mem h
theorem allB_mem {p : Int → Bool} {l : List UInt8} (h : allB p l = true) {c : UInt8} (hc : c ∈ l) : p (c.toNat : Int) = true := by
  unfold allB at h; rw [List.all_eq_true] at h; exact h c hc
theorem outer_eq (s : ByteArray) (h : allB prB s.data.toList = true) : stripE tabspB (stripF tabspB s.data.toList) = strippedB s ⟨#[32]⟩ true true := by
  have hc : ∀ c ∈ s.data.toList, tabspB (c.toNat : Int) = inB [32] (c.toNat : Int) := by
    intro c hc
    have := allB_mem h hc
    simp only [prB, Bool.and_eq_true, decide_eq_true_eq] at this
    rw [Bool.eq_iff_iff]; simp [tabspB, inB]; omega
  show _ = stripE (inB [32]) (stripF (inB [32]) s.data.toList)
  rw [stripF_congr _ _ _ hc, stripE_congr _ _ _ (fun c h => hc c (mem_stripF h))]
theorem isEmpty_size (y : ByteArray) : y.toList.isEmpty = !decide (0 < y.size) := by
  rw [Lib.toList_data, Lib.size_eq]; cases y.data.toList <;> simp
theorem bel_step2 {B : Nat} {w a b : World} (h : Below B w a) (k : Below a.heap.size a b) (hB : B ≤ w.heap.size) : Below B w b := h.trans (k.mono (Nat.le_trans hB h.size))
set_option maxHeartbeats 1000000 in
theorem walkFnTableOuter (a0 : ByteArray) (w : World) (w0 : a0.size ≤ maxLen) : Calls Try.prog 6 #[.string a0] w fun e w' => e = .returned (.bool true) ∧ Below w.heap.size w w' := by
  have hs : a0.size ≤ 9223372036854775807 := w0
  cases hp : fitB prB a0 2000 with
  | false =>
    go_enter Try.func6, Try.ntmps6
    go_wp2_with (go_at_call 20; refine (laws_printable _ _ _ w0).mono ?_; rintro e w' ⟨rfl, rfl⟩)
    all_goals (go_ret; exact ⟨rfl, Below.refl _ _⟩)
  | true =>
    have hpa : allB prB a0.data.toList = true := by simp only [fitB, Bool.and_eq_true] at hp; exact hp.2
    obtain ⟨x, hx⟩ : ∃ x : ByteArray, x = ⟨(strippedB a0 ⟨#[32]⟩ true true).toArray⟩ := ⟨_, rfl⟩
    have hx2 : x = ⟨(stripE tabspB (stripF tabspB a0.data.toList)).toArray⟩ := by rw [hx, outer_eq a0 hpa]
    have hxs : x.size ≤ 9223372036854775807 := by
      subst hx2; rw [size_mk]
      have h1 := stripE_len tabspB (stripF tabspB a0.data.toList)
      have h2 := stripF_len tabspB a0.data.toList
      have h3 : a0.data.toList.length = a0.size := by simp
      omega
    have HS := Lib.hid (fun w : World => laws_stripped a0 ⟨#[32]⟩ true true w w0)
    rw [← hx] at HS
    have HO := Lib.hid (fun w : World => impl_TableTrimOuter a0 x w w0 hx2)
    have HW := Lib.hid (fun w : World => laws_withoutByte 92 w)
    have hbel : Below w.heap.size w w := Below.refl _ _
    have hemp := isEmpty_size
    clear hx hx2 hpa
    go_enter Try.func6, Try.ntmps6
    go_wp2_with (first
      | (go_at_call 20; refine (laws_printable _ _ _ w0).mono ?_; rintro e w' ⟨rfl, rfl⟩)
      | (go_at_call 22; refine (HW.out _).mono ?_; rintro e w2 ⟨t, rfl, hb⟩; replace hbel := bel_step2 hbel hb (Nat.le_refl _); clear hb)
      | (go_at_call 21; refine (laws_only _ _ _ _ w0).mono ?_; rintro e w' ⟨rfl, rfl⟩)
      | (go_at_call 23; refine (HS.out _).mono ?_; rintro e w2 ⟨rfl, hb⟩; replace hbel := bel_step2 hbel hb (Nat.le_refl _); clear hb)
      | (go_at_call 24; refine (HO.out _).mono ?_; rintro e w' ⟨rfl, rfl⟩))
    all_goals (go_ret; refine ⟨ret_bool ?_, hbel⟩; clear hemp; first | rfl | (simp_all [cutHead, cutLast]; done) | (simp_all [cutHead, cutLast]; omega))
end Go.Proofs.Ytigeaoijcjidbaa
