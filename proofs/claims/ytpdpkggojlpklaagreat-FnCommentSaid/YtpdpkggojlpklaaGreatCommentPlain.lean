/- A text without hyphens between the marks of a comment: a comment stands there, and nowhere does it end before. -/
import Derived.Test.YtpdpkggojlpklaaGreatCommentDoors
namespace Go.Proofs.YtpdpkggojlpklaaGreat
open Go.RowKit
theorem find_end (B : List UInt8) : ∀ T : List UInt8, (∀ c ∈ T, c ≠ 45) → findSub [45, 45, 62] (T ++ 45 :: 45 :: 62 :: B) = some T.length
  | [], _ => by rw [List.nil_append, findSub_yes (by rfl)]; rfl
  | c :: T, h => by
    have hc : c ≠ 45 := h c (by simp)
    rw [List.cons_append, findSub_no (by simp [List.isPrefixOf]; intro e; exact absurd e.symm hc), find_end B T fun d hd => h d (by simp [hd])]
    rfl
theorem find_two : ∀ T : List UInt8, (∀ c ∈ T, c ≠ 45) → findSub [45, 45] (T ++ [45]) = none
  | [], _ => by rfl
  | c :: T, h => by
    have hc : c ≠ 45 := h c (by simp)
    rw [List.cons_append, findSub_no (by simp [List.isPrefixOf]; intro e; exact absurd e.symm hc), find_two T fun d hd => h d (by simp [hd])]
    rfl
theorem comment_list (t b : ByteArray) : (cmA ++ t ++ cmB ++ b).data.toList = 60 :: 33 :: 45 :: 45 :: (t.data.toList ++ 45 :: 45 :: 62 :: b.data.toList) := by
  simp [cmA, cmB]
theorem comment_is (t b : ByteArray) (ht : t.size ≤ 300) (hb : b.size ≤ 300) (h45 : ∀ c ∈ t.data.toList, c ≠ 45) (hgt : hasPre t ⟨#[62]⟩ = false) :
    IsComment (cmA ++ t ++ cmB ++ b) 0 (t.size + 7) := by
  have hL := comment_list t b
  have hsz : (cmA ++ t ++ cmB ++ b).size = t.size + 7 + b.size := by
    have := congrArg List.length hL
    simp at this ⊢; omega
  have hE : ((cmA ++ t ++ cmB ++ b).extract 0 (cmA ++ t ++ cmB ++ b).size).data.toList = 60 :: 33 :: 45 :: 45 :: (t.data.toList ++ 45 :: 45 :: 62 :: b.data.toList) := by
    rw [tail_dataM, List.drop_zero, hL]
  have hlen : t.data.toList.length = t.size := by simp
  have hgt' : ([62] : List UInt8).isPrefixOf t.data.toList = false := hgt
  refine ⟨by omega, by omega, by omega, ?_, ?_, ?_, ?_⟩
  · unfold hasPre
    rw [hE]
    cases hT : t.data.toList with
    | nil => rfl
    | cons c T =>
      rw [hT] at hgt'
      simp [List.isPrefixOf] at hgt'
      simp [cmX, List.isPrefixOf, hgt']
  · unfold hasPre
    rw [hE]
    cases hT : t.data.toList with
    | nil => rfl
    | cons c T =>
      have hc : c ≠ 45 := h45 c (by rw [hT]; simp)
      simp [cmY, List.isPrefixOf]
      intro e; exact absurd e.symm hc
  · unfold untilOf
    have h1 : hasPre ((cmA ++ t ++ cmB ++ b).extract 0 (cmA ++ t ++ cmB ++ b).size) cmA = true := by
      unfold hasPre; rw [hE]; simp [cmA, List.isPrefixOf]
    rw [h1, if_pos rfl, hE]
    have h2 : (60 :: 33 :: 45 :: 45 :: (t.data.toList ++ 45 :: 45 :: 62 :: b.data.toList)).drop cmA.size = t.data.toList ++ 45 :: 45 :: 62 :: b.data.toList := rfl
    have h3 : cmB.data.toList = [45, 45, 62] := rfl
    rw [h2, h3, find_end b.data.toList t.data.toList h45, hlen]
    show 4 + t.size + 3 = t.size + 7
    omega
  · have h3 : cmH.data.toList = [45, 45] := rfl
    rw [h3, Lib.extract_data, Lib.extract_data, hL, Nat.zero_add, Nat.sub_zero, List.drop_zero]
    have h4 : ((60 :: 33 :: 45 :: 45 :: (t.data.toList ++ 45 :: 45 :: 62 :: b.data.toList)).take (t.size + 7)) = 60 :: 33 :: 45 :: 45 :: ((t.data.toList ++ 45 :: 45 :: 62 :: b.data.toList).take (t.size + 3)) := rfl
    rw [h4]
    show findSub [45, 45] (((t.data.toList ++ 45 :: 45 :: 62 :: b.data.toList).take (t.size + 3)).take (t.size + 7 - 2 - 4)) = none
    rw [List.take_take, show min (t.size + 7 - 2 - 4) (t.size + 3) = t.data.toList.length + 1 by rw [hlen]; omega, List.take_length_add_append]
    exact find_two _ h45
theorem comment_text (t b : ByteArray) : (cmA ++ t ++ cmB ++ b).extract 0 (0 + (t.size + 7)) = cmA ++ t ++ cmB := by
  apply ByteArray.ext
  apply Array.toList_inj.1
  rw [Lib.extract_data, comment_list, Nat.zero_add, Nat.sub_zero, List.drop_zero]
  have h5 : (cmA ++ t ++ cmB).data.toList = 60 :: 33 :: 45 :: 45 :: (t.data.toList ++ [45, 45, 62]) := by simp [cmA, cmB]
  rw [h5]
  have hlen : t.data.toList.length = t.size := by simp
  show 60 :: 33 :: 45 :: 45 :: ((t.data.toList ++ 45 :: 45 :: 62 :: b.data.toList).take (t.size + 3)) = _
  rw [← hlen, List.take_length_add_append]
  rfl
theorem comment_size (t : ByteArray) : (cmA ++ t ++ cmB).size = t.size + 7 := by
  simp [cmA, cmB]; show 4 + t.size + 3 = _; omega
theorem comment_heads (t b : ByteArray) : ∃ h : 0 + 2 < (cmA ++ t ++ cmB ++ b).size, ((cmA ++ t ++ cmB ++ b)[0].toNat : Int) = 60 ∧ ((cmA ++ t ++ cmB ++ b)[0 + 1].toNat : Int) = 33 ∧ ((cmA ++ t ++ cmB ++ b)[0 + 2].toNat : Int) = 45 := by
  have hL := comment_list t b
  have h : 0 + 2 < (cmA ++ t ++ cmB ++ b).size := by
    have := congrArg List.length hL
    simp at this ⊢; omega
  have get : ∀ k (hk : k < (cmA ++ t ++ cmB ++ b).size), some ((cmA ++ t ++ cmB ++ b)[k]) = (60 :: 33 :: 45 :: 45 :: (t.data.toList ++ 45 :: 45 :: 62 :: b.data.toList))[k]? := by
    intro k hk
    rw [← hL, List.getElem?_eq_getElem (by rw [Array.length_toList]; exact hk)]; rfl
  have g0 := get 0 (by omega)
  have g1 := get (0 + 1) (by omega)
  have g2 := get (0 + 2) h
  simp only [Nat.zero_add, List.getElem?_cons_zero, List.getElem?_cons_succ, Option.some.injEq] at g0 g1 g2
  refine ⟨h, ?_, ?_, ?_⟩
  · rw [g0]; rfl
  · simp only [Nat.zero_add]; rw [g1]; rfl
  · simp only [Nat.zero_add]; rw [g2]; rfl
end Go.Proofs.YtpdpkggojlpklaaGreat
