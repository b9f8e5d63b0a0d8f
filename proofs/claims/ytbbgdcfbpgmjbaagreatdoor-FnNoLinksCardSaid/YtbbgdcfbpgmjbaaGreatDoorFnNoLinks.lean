/- FnNoLinks' walk: for all texts it returns true and leaves memory below as it was. -/
import Derived.Test.YtbbgdcfbpgmjbaaGreatDoorAutoLinks
import Derived.Test.YtbbgdcfbpgmjbaaGreatDoorOnly
namespace Go.Proofs.YtbbgdcfbpgmjbaaGreatDoor
open Go.RowKit
/-- the law's alphabet; the address behind a text -/
def clsN : ByteArray := ⟨#[97, 98, 99, 100, 101, 102, 103, 105, 106, 107, 108, 110, 111, 32, 48, 49, 57]⟩
def tailN : List UInt8 := [32, 104, 116, 116, 112, 58, 47, 47, 97, 46, 98, 32]
def withN (s : ByteArray) : ByteArray := s ++ ⟨tailN.toArray⟩
def htmlN : ByteArray := ⟨#[32, 60, 97, 32, 104, 114, 101, 102, 61, 34, 104, 116, 116, 112, 58, 47, 47, 97, 46, 98, 34, 62, 104, 116, 116, 112, 58, 47, 47, 97, 46, 98, 60, 47, 97, 62, 32]⟩
theorem withN_list (s : ByteArray) : (withN s).data.toList = s.data.toList ++ tailN := by unfold withN; simp
theorem withN_size (s : ByteArray) : (withN s).size = s.size + 12 := by unfold withN; rw [ByteArray.size_append]; rfl
theorem get_list {T : ByteArray} {k : Nat} (h : k < T.size) {b : UInt8} (hb : T.data.toList[k]? = some b) : T[k] = b := by
  have h2 : k < T.data.toList.length := by simpa using h
  rw [List.getElem?_eq_getElem h2] at hb
  exact Option.some.inj hb
theorem withN_tail (s : ByteArray) (j : Nat) (h : s.size + j < (withN s).size) {b : UInt8} (hb : tailN[j]? = some b) : (withN s)[s.size + j] = b := by
  refine get_list h ?_
  rw [withN_list, List.getElem?_append_right (by simp)]
  simpa using hb
theorem withN_head (s : ByteArray) (k : Nat) (h : k < (withN s).size) (hk : k < s.size) : (withN s)[k] = s[k] := by
  refine get_list h ?_
  rw [withN_list, List.getElem?_append_left (by simpa using hk), List.getElem?_eq_getElem (by simpa using hk)]
  rfl
theorem withN_piece (s : ByteArray) (i j : Nat) : (withN s).extract (s.size + i) (s.size + j) = ⟨((tailN.take j).drop i).toArray⟩ := by
  have hl : s.data.toList.length = s.size := by simp
  rw [extract_piece, withN_list, ← hl, List.take_length_add_append, List.drop_length_add_append]
theorem withN_front (s : ByteArray) (j : Nat) : (withN s).extract 0 (s.size + j) = s ++ ⟨(tailN.take j).toArray⟩ := by
  have hl : s.data.toList.length = s.size := by simp
  rw [extract_piece, withN_list, ← hl, List.take_length_add_append, List.drop_zero]
  apply ByteArray.ext; simp
theorem withN_dom (s : ByteArray) (hs : s.size ≤ 200) : DomAt (withN s) (s.size + 8) where
  size := withN_size s
  short := by rw [withN_size]; omega
  c0 := fun h => withN_tail s 8 h rfl
  c1 := fun h => withN_tail s 9 h rfl
  c2 := fun h => withN_tail s 10 h rfl
  c3 := fun h => withN_tail s 11 h rfl
theorem withN_url (s : ByteArray) (hs : s.size ≤ 200) : UrlAt (withN s) (s.size + 1) where
  size := withN_size s
  short := by rw [withN_size]; omega
  dom := withN_dom s hs
  c0 := fun h => withN_tail s 1 h rfl
  no := by rw [show s.size + 1 + 11 = s.size + 12 from rfl, withN_piece s 1 12]; decide +kernel
  yes := by rw [show s.size + 1 + 11 = s.size + 12 from rfl, withN_piece s 1 12]; decide +kernel
/-- a byte of the alphabet begins no address and is no mark of HTML -/
theorem cls_byte (c : UInt8) (h : inB clsN.data.toList (c.toNat : Int) = true) : Calm (c.toNat : Int) ∧ htmlK.contains c = false := by
  have : ∀ n : Fin 256, inB clsN.data.toList ((UInt8.ofNat n.val).toNat : Int) = true → ((UInt8.ofNat n.val).toNat ≠ 64 ∧ (UInt8.ofNat n.val).toNat ≠ 104 ∧ (UInt8.ofNat n.val).toNat ≠ 109 ∧ (UInt8.ofNat n.val).toNat ≠ 120 ∧ (UInt8.ofNat n.val).toNat ≠ 119) ∧ htmlK.contains (UInt8.ofNat n.val) = false := by decide +kernel
  have hc : UInt8.ofNat c.toNat = c := by simp
  have := this ⟨c.toNat, c.toNat_lt⟩
  simp only [hc] at this
  obtain ⟨⟨h1, h2, h3, h4, h5⟩, h6⟩ := this h
  exact ⟨⟨by omega, by omega, by omega, by omega, by omega⟩, h6⟩
theorem escP_same {K : List UInt8} {E : UInt8 → List UInt8} : ∀ l : List UInt8, (∀ c ∈ l, K.contains c = false) → escP K E l = l
  | [], _ => rfl
  | c :: l, h => by
    have h1 := h c (by simp)
    have ih := escP_same (K := K) (E := E) l (fun d hd => h d (by simp [hd]))
    have e : escP K E (c :: l) = (if K.contains c then E c else [c]) ++ escP K E l := by unfold escP; rw [List.flatMap_cons]
    rw [e, h1, ih]; rfl
theorem withN_html (s : ByteArray) (h : ∀ c ∈ s.data.toList, inB clsN.data.toList (c.toNat : Int) = true) :
    (⟨(threeH ((withN s).extract 0 (s.size + 1)) ((withN s).extract (s.size + 1) (s.size + 1 + 7) ++ (withN s).extract (s.size + 1 + 7) (s.size + 1 + 10)) ((withN s).extract (s.size + 1) (s.size + 1 + 10)) ((withN s).extract (s.size + 1 + 10) (s.size + 1 + 11)) 3).toArray⟩ : ByteArray) = s ++ htmlN := by
  rw [show s.size + 1 + 7 = s.size + 8 from rfl, show s.size + 1 + 10 = s.size + 11 from rfl, show s.size + 1 + 11 = s.size + 12 from rfl, withN_front, withN_piece s 1 8, withN_piece s 8 11, withN_piece s 1 11, withN_piece s 11 12]
  unfold threeH
  simp only [Nat.reduceLT, if_true]
  have e1 : (s ++ (⟨(tailN.take 1).toArray⟩ : ByteArray)).data.toList = s.data.toList ++ [32] := by simp [tailN]
  rw [e1, escP_append, escP_same s.data.toList (fun c hc => (cls_byte c (h c hc)).2)]
  have e2 : escP htmlK htmlE [32] ++ (linkH ((⟨((tailN.take 8).drop 1).toArray⟩ : ByteArray) ++ ⟨((tailN.take 11).drop 8).toArray⟩) ⟨((tailN.take 11).drop 1).toArray⟩ ++ escP htmlK htmlE (⟨((tailN.take 12).drop 11).toArray⟩ : ByteArray).data.toList) = htmlN.data.toList := by decide +kernel
  rw [List.append_assoc, List.append_assoc, e2]
  apply ByteArray.ext; simp
set_option maxHeartbeats 2000000 in
theorem walkFnNoLinks (a0 : ByteArray) (w : World) (w0 : a0.size ≤ maxLen) : Calls Tryz.prog 3 #[.string a0] w fun e w' => e = .returned (.bool true) ∧ Below w.heap.size w w' := by
  have hs0 : a0.size ≤ 9223372036854775807 := w0
  have HL := fun w => laws_only a0 clsN 200 w w0
  cases hf : fitB (inB clsN.data.toList) a0 200 with
  | false =>
    rw [hf] at HL
    have HL := Lib.hid HL
    clear hf
    unfold clsN at HL
    go_enter Tryz.func3, Tryz.ntmps3
    go_wp2_with (go_at_call 4; refine (HL.out _).mono ?_; rintro e w' ⟨rfl, rfl⟩)
    all_goals (go_ret; exact ⟨rfl, Below.refl _ _⟩)
  | true =>
  rw [hf] at HL
  unfold fitB at hf
  rw [Bool.and_eq_true, decide_eq_true_eq] at hf
  obtain ⟨hz, ha⟩ := hf
  have hz2 : a0.size ≤ 200 := by omega
  have hA : ∀ c ∈ a0.data.toList, inB clsN.data.toList (c.toNat : Int) = true := fun c hc => List.all_eq_true.1 ha c hc
  have hC : ∀ k (h : k < a0.size), Calm (a0[k].toNat : Int) := fun k h => (cls_byte a0[k] (hA _ (by rw [show a0[k] = a0.data.toList[k]'(by simpa using h) from rfl]; exact List.getElem_mem _))).1
  have HN := Lib.hid (fun w => impl_AutoLinks_none a0 w (by omega) hC)
  have hsz := withN_size a0
  have HO := fun w => impl_AutoLinks_one (withN a0) a0.size w (withN_url a0 hz2) (fun k h hk => by
    rcases Nat.lt_or_ge k a0.size with h1 | h1
    · rw [withN_head a0 k h h1]; exact hC k h1
    · have : k = a0.size + 0 := by omega
      subst this
      rw [withN_tail a0 0 h rfl]
      exact ⟨by decide, by decide, by decide, by decide, by decide⟩) (fun h => by
      have this : (withN a0)[a0.size]'h = 32 := withN_tail a0 0 h (b := 32) rfl
      rw [this]; decide)
  have HH := fun a c w hx => impl_InlinesHTML ((withN a0).extract 0 (a0.size + 1)) ((withN a0).extract (a0.size + 1) (a0.size + 1 + 7) ++ (withN a0).extract (a0.size + 1 + 7) (a0.size + 1 + 10)) ((withN a0).extract (a0.size + 1) (a0.size + 1 + 10)) ((withN a0).extract (a0.size + 1 + 10) (a0.size + 1 + 11)) a c w hx (by rw [ByteArray.size_extract]; omega) (by rw [ByteArray.size_append, ByteArray.size_extract, ByteArray.size_extract]; omega) (by rw [ByteArray.size_extract]; omega) (by rw [ByteArray.size_extract]; omega)
  unfold Told at HH
  unfold NodesTold at HO
  rw [withN_html a0 hA] at HH
  generalize (withN a0).extract 0 (a0.size + 1) = s1 at *
  generalize (withN a0).extract (a0.size + 1) (a0.size + 1 + 7) ++ (withN a0).extract (a0.size + 1 + 7) (a0.size + 1 + 10) = u at *
  generalize (withN a0).extract (a0.size + 1) (a0.size + 1 + 10) = x at *
  generalize (withN a0).extract (a0.size + 1 + 10) (a0.size + 1 + 11) = r at *
  clear hA hC ha hz hsz
  have HL := Lib.hid HL
  unfold clsN at HL
  unfold withN tailN at HO
  have HO := Lib.hid HO
  unfold htmlN at HH
  have HH := Lib.hid HH
  go_enter Tryz.func3, Tryz.ntmps3
  go_wp2_with (first
    | (go_at_call 4; refine (HL.out _).mono ?_; rintro e w' ⟨rfl, rfl⟩)
    | (go_at_call 5; first
      | ((with_reducible refine (HN.out _).mono ?_); rintro e w1 ⟨rfl, hb1⟩)
      | (refine (HO.out _).mono ?_; rintro e w2 ⟨b, cap, rfl, hn2, hb2⟩; have HN2 := Lib.hid hn2; clear hn2))
    | (go_at_call 6; refine (HH.out _ _ _ HN2.out).mono ?_; rintro e w3 ⟨rfl, hb3⟩))
  · go_ret
    exact ⟨rfl, Below.refl _ _⟩
  · go_ret
    exact ⟨rfl, hb1.trans ((hb2.mono hb1.size).trans (hb3.mono (Nat.le_trans hb1.size hb2.size)))⟩
end Go.Proofs.YtbbgdcfbpgmjbaaGreatDoor
