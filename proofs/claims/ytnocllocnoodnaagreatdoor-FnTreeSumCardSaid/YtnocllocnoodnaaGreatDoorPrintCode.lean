/- PrintHTML of blocks of code (with a fence). -/
import Derived.Test.YtnocllocnoodnaaGreatDoorPrintThree
import Derived.Laws.RangeString
namespace Go.Proofs.YtnocllocnoodnaaGreatDoor
open Go.RowKit
theorem quote_len : 8 = 2 * htmlK.length := by decide +kernel
set_option maxHeartbeats 1000000 in
set_option maxRecDepth 1000000 in
theorem md_htmlQuoteEscaper (w : World) : Calls Tryz.prog 92 #[] w (PairsMade htmlK htmlE w) := by
  unfold PairsMade
  rw [← quote_len]
  unfold pairCells
  go_enter Tryz.func92, Tryz.ntmps92
  refine seq_to ⟨#[.slice none 0 0, undef], []⟩ w ?h1 ?h2
  case h1 =>
    go_wp2
    first | exact ⟨rfl, rfl⟩ | exact ⟨trivial, trivial⟩ | exact ⟨trivial, rfl⟩ | trivial
  case h2 =>
    refine seq_to ⟨#[.slice (some ⟨w.heap.size, 0, none⟩) 8 8, .slice (some ⟨w.heap.size, 0, none⟩) 8 8], []⟩ (w.alloc (.cells ((pairL htmlK htmlE).map strV).toArray 9)) ?h1 ?h2
    case h1 =>
      apply wp_region_lit
      refine wpList_buildStr rfl 213 9 8 _ rfl (pairL htmlK htmlE) (by kernel_rfl) (by kernel_rfl) (by kernel_rfl) (by kernel_rfl) (by decide) (by decide) (by kernel_rfl) ?_
      refine rest_any fun O => ?_
      generalize pairL htmlK htmlE = ZS
      go_wp2
      first | exact ⟨rfl, rfl⟩ | exact ⟨trivial, trivial⟩ | exact ⟨trivial, rfl⟩ | trivial
    case h2 =>
      go_wp2
      go_ret
      exact ⟨rfl, rfl⟩
/-- a word: letters alone -/
def Letters (s : ByteArray) : Prop := ∀ k (h : k < s.size), 97 ≤ s[k].toNat ∧ s[k].toNat ≤ 122
theorem md_isUnicodeSpace_letter (c : Int) (w : World) (h1 : 97 ≤ c) (h2 : c ≤ 122) : Calls Tryz.prog 103 #[.int .i32 c] w fun e w' => e = .returned (.bool false) ∧ w = w' := by
  have e0 : (c == 32) = false := by simp; omega
  have e1 : (c == 9) = false := by simp; omega
  have e2 : (c == 12) = false := by simp; omega
  have e3 : (c == 10) = false := by simp; omega
  go_enter Tryz.func103, Tryz.ntmps103
  go_wp2_with (fail)
  go_ret
  exact ⟨rfl, rfl⟩
theorem owns_rowP {w : World} {B : Nat} {e : TypeId} {sz n : Nat} {v : Value} {xs : List Value} (h : w.ownsRow B e sz v n xs) (hn : 0 < n) : ∃ g cap, v = .slice (some ⟨g, 0, none⟩) n cap ∧ B ≤ g ∧ g < w.heap.size ∧ RowAt e g xs w := by
  rcases h.2 with ⟨_, h0⟩ | ⟨g, cap, cur, hv, hb, hg, _, _, _, ht⟩
  · omega
  · exact ⟨g, cap, hv, hb, (Array.getElem?_eq_some_iff.1 hg).1, cur, hg, by rw [h.1]; exact ht⟩
theorem Buf.drewN {B b : Nat} {l : List UInt8} {w : World} (h : Buf B b l w) (n : Nat) : Buf B b l (w.drewN n) := h
/-- what the block writes of its info string; of its lines -/
def infoH (info : ByteArray) : List UInt8 := if info.size = 0 then [] else [32, 99, 108, 97, 115, 115, 61, 34, 108, 97, 110, 103, 117, 97, 103, 101, 45] ++ escP htmlK htmlE info.data.toList ++ [34]
def lineH (ss : List ByteArray) (i : Nat) : List UInt8 := escP htmlK htmlE (ss.getD i ⟨#[]⟩).data.toList ++ [10]
def fenceH (info : ByteArray) (ss : List ByteArray) : List UInt8 := ([60, 112, 114, 101, 62, 60, 99, 111, 100, 101] ++ infoH info) ++ ([62] ++ (sumT (lineH ss) ss.length ++ [60, 47, 99, 111, 100, 101, 62, 60, 47, 112, 114, 101, 62, 10]))
/-- the lines' part of the walk's end -/
theorem nl_snoc {l : List UInt8} (h : NlEnd l) (h0 : l ≠ []) : ∃ m, l = m ++ [10] := by
  rcases h with h | h
  · exact absurd h h0
  · refine ⟨l.dropLast, ?_⟩
    have h1 : l.getLast h0 = 10 := by rw [List.getLast?_eq_some_getLast h0] at h; exact Option.some.inj h
    rw [← h1]
    exact (List.dropLast_concat_getLast h0).symm
theorem buf_len (B b : Nat) (l : List UInt8) (w : World) (h : Buf B b l w) : Calls Tryz.prog 71 #[.pointer (some ⟨b, 0, none⟩)] w fun e w' => e = .returned (.int .i64 l.length) ∧ ∃ n, w' = w.drewN n := by
  have := Tryz.Buffer_Len B b _ w h
  rw [Lib.byteCells_length] at this
  exact this
theorem buf_bytes (B b : Nat) (l : List UInt8) (w : World) (h : Buf B b (l ++ [10]) w) : Calls Tryz.prog 102 #[.pointer (some ⟨b, 0, none⟩)] w fun e w' => ∃ g cap, e = .returned (.slice (some ⟨g, 0, none⟩) (l.length + 1) cap) ∧ (∃ n, w' = w.drewN n) ∧ w'.cell? ⟨g, l.length, none⟩ = some (.int .u8 10) := by
  refine (Tryz.Buffer_Bytes B b _ w h).mono ?_
  rintro e w' ⟨v, rfl, hown, n, rfl⟩
  have hl : (Lib.byteCells (l ++ [10])).length = l.length + 1 := by rw [Lib.byteCells_length]; simp
  rw [hl] at hown
  obtain ⟨g, cap, rfl, _, _, hr⟩ := owns_rowP hown (by omega)
  refine ⟨g, cap, rfl, ⟨n, rfl⟩, ?_⟩
  rw [hr.cell l.length (by omega)]
  have e1 : Lib.byteCells (l ++ [10]) = Lib.byteCells l ++ [.int .u8 10] := buf_bytes_snoc l 10
  have e2 : (Lib.byteCells (l ++ [10]))[l.length]? = some (.int .u8 10) := by rw [e1, List.getElem?_append_right (by rw [Lib.byteCells_length]; omega), Lib.byteCells_length]; simp
  rw [List.getElem?_eq_getElem (by omega)] at e2
  exact e2
set_option maxHeartbeats 8000000 in
set_option maxRecDepth 100000 in
theorem CodeBlock_by (info fence : ByteArray) (ss : List ByteArray) (lo hi p a c : Nat) (m1 m2 : Value) (w : World) (hp : w.heap[p]? = some (.cells #[m1, m2, .string fence, .string info, .slice (some ⟨a, 0, none⟩) ss.length c] 85 (0, 0))) (hlo : lo ≤ p) (hhi : p < hi) (hlo2 : lo ≤ a) (hhi2 : a < hi)
    (hrow : RowAt 9 a (ss.map Value.string) w) (hss : ∀ s ∈ ss, s.size ≤ 1000) (hsn : ss.length ≤ 1000) (hf : fence.toList.isEmpty = false) (hinf : Letters info) (hin : info.size ≤ 100) :
    PrintsBy NlEnd 100 ⟨p, 0, none⟩ (fenceH info ss) lo hi w := by
  intro w' B b l hag hB hBw hb hlen hpre
  have hcell := fun j => Lib.cell_of_heap ((hag p hlo hhi).trans hp) j
  have HCL : Hid (∀ wx, Below B w' wx → wx.cell? ⟨p, 2, none⟩ = some (.string fence) ∧ wx.cell? ⟨p, 3, none⟩ = some (.string info) ∧ wx.cell? ⟨p, 4, none⟩ = some (.slice (some ⟨a, 0, none⟩) ss.length c)) := Lib.hid (fun wx hx => ⟨(hx.cell (p := ⟨p, 2, none⟩) (by show p < B; omega)).trans (by rw [hcell]; rfl), (hx.cell (p := ⟨p, 3, none⟩) (by show p < B; omega)).trans (by rw [hcell]; rfl), (hx.cell (p := ⟨p, 4, none⟩) (by show p < B; omega)).trans (by rw [hcell]; rfl)⟩)
  have hrow' := hrow.of (hag a hlo2 hhi2)
  have HR : Hid (∀ wx, Below B w' wx → ∀ k (h : k < ss.length), wx.cell? ⟨a, k, none⟩ = some (.string ss[k])) := Lib.hid (fun wx hx k h => by have := (hrow'.of (hx.block a (by omega))).cell k (by simpa using h); simpa using this)
  have HLN : Hid (∀ k, k ≤ ss.length → (sumT (lineH ss) k).length ≤ (sumT (lineH ss) ss.length).length) := Lib.hid (fun k h => sumT_mono _ h)
  have HBW := Lib.hid hb
  have HLEN := Lib.hid hlen
  have HPRE := Lib.hid hpre
  clear hb hag hpre hp hrow hrow' hcell hlen
  unfold Wrote fenceH
  go_enter Tryz.func100, Tryz.ntmps100
  go_upto_region 0 with (fail)
  go_cut [21] from 9 to 21 (fun v wx => v = .bool false ∧ Hid (Buf B b l wx) ∧ Below B w' wx ∧ Kept b w' wx)
  case first =>
    by_cases hl0 : l = []
    · subst hl0
      go_wp2_with (go_at_call 71; refine (buf_len B b _ _ HBW.out).mono ?_; rintro e w3 ⟨rfl, n3, rfl⟩)
      go_meet
      exact ⟨rfl, Lib.hid (HBW.out.drewN n3), bel_drewP (Below.refl _ _) n3, Lib.OthersKept.refl _ _ w'⟩
    · obtain ⟨l0, rfl⟩ := nl_snoc HPRE.out hl0
      have hll : ((l0 ++ [10]).length : Int) = (l0.length : Int) + 1 := by simp
      have HLE := HLEN.out
      simp only [List.length_append, List.length_cons, List.length_nil] at HLE
      have HLB : Hid (∀ wx, Buf B b (l0 ++ [10]) wx → Calls Tryz.prog 71 #[.pointer (some ⟨b, 0, none⟩)] wx fun e w' => e = .returned (.int .i64 ((l0.length : Int) + 1)) ∧ ∃ n, w' = wx.drewN n) := Lib.hid (fun wx h => by have := buf_len B b _ wx h; rw [hll] at this; exact this)
      clear hl0 HLEN
      go_wp2_with (first
        | (go_at_call 102; refine (buf_bytes B b l0 _ (HBW.out.drewN n3)).mono ?_; rintro e w4 ⟨g, cap, rfl, ⟨n4, rfl⟩, hgc⟩; simp only [World.cell?_drewN] at hgc)
        | (go_at_call 71; first
          | (refine (HLB.out _ (HBW.out.drewN (n3 + n4))).mono ?_; rintro e w5 ⟨rfl, n5, rfl⟩)
          | (refine (HLB.out _ HBW.out).mono ?_; rintro e w3 ⟨rfl, n3, rfl⟩)))
      go_meet
      exact ⟨rfl, Lib.hid (HBW.out.drewN _), bel_drewP (Below.refl _ _) _, Lib.OthersKept.refl _ _ w'⟩
  case rest =>
    obtain ⟨rfl, HB1, hl1, hk1⟩ := hcut
    clear HPRE HBW
    have HLE := HLEN.out
    unfold fenceH at HLE
    simp only [List.length_append, List.length_cons, List.length_nil] at HLE
    clear HLEN
    have HM := Lib.hid (fun w => md_htmlEscaper w)
    unfold PairsMade at HM
    obtain ⟨c1, d1, e1⟩ := HCL.out _ hl1
    by_cases h0 : info.size = 0
    · have hi0 : info.toList.isEmpty = true := by rw [Lib.toList_data, List.isEmpty_iff]; exact List.eq_nil_of_length_eq_zero (by simpa using h0)
      have hI0 : infoH info = [] := by unfold infoH; rw [if_pos h0]
      rw [hI0] at HLE
      simp only [List.length_nil] at HLE
      go_wp2_with (first
        | (go_at_call 68; refine (buf_string B b _ _ _ HB2.out (Nat.le_trans hBw hl2.size) (by simp only [List.length_append, List.length_cons, List.length_nil]; omega) (by decide)).mono ?_; rintro e w3 ⟨rfl, hb3, hl3', hk3'⟩; have HB3 := Lib.hid hb3; have hl3 := hl2.trans hl3'; have hk3 := hk2.trans hk3'; clear hb3 hl3' hk3' c2 d2 e2; obtain ⟨c3, d3, e3⟩ := HCL.out _ hl3)
        | (go_at_call 68; refine (buf_string B b _ _ _ HB1.out (Nat.le_trans hBw hl1.size) (by omega) (by decide)).mono ?_; rintro e w2 ⟨rfl, hb2, hl2', hk2'⟩; have HB2 := Lib.hid hb2; have hl2 := hl1.trans hl2'; have hk2 := hk1.trans hk2'; clear hb2 hl2' hk2' c1 d1 e1; obtain ⟨c2, d2, e2⟩ := HCL.out _ hl2))
      clear c3 d3 e3
      go_loopg [101] ss.length (fun gg i wx => ∃ k, k + gg = ss.length ∧ i = .int .i64 (k : Nat) ∧ Hid (Buf B b (l ++ [60, 112, 114, 101, 62, 60, 99, 111, 100, 101] ++ [62] ++ sumT (lineH ss) k) wx) ∧ Below B w' wx ∧ Kept b w' wx)
      case atStart => exact ⟨0, by omega, rfl, Lib.hid (by simpa [sumT, List.append_assoc] using HB3.out), hl3, hk3⟩
      case round =>
        obtain ⟨k, hk, rfl, HB5, hl5, hk5⟩ := hrel
        by_cases hlt : k < ss.length
        · have hc := HR.out wr hl5 k hlt
          have hlk := HLN.out (k + 1) hlt
          simp only [sumT, List.length_append] at hlk
          have hline : lineH ss k = escP htmlK htmlE ss[k].data.toList ++ [10] := by unfold lineH; rw [List.getD, List.getElem?_eq_getElem hlt]; rfl
          rw [hline, List.length_append, List.length_cons, List.length_nil] at hlk
          have hsz := hss ss[k] (List.getElem_mem hlt)
          have HR5 := Lib.hid (md_zzPairs_Replace htmlK htmlE (by decide +kernel) (fun c _ => Nat.le_trans (htmlE_len c) (by decide)) wr.heap.size ss[k] (wr.alloc (.cells (pairCells htmlK htmlE) 9)) (heap_alloc_new wr _) (by omega))
          have HA : Hid (Below B w' (wr.alloc (.cells (pairCells htmlK htmlE) 9)) ∧ Below wr.heap.size wr (wr.alloc (.cells (pairCells htmlK htmlE) 9))) := Lib.hid ⟨hl5.alloc (Nat.le_trans hBw hl5.size) _, (Below.refl _ _).alloc (Nat.le_refl _) _⟩
          have hRs : (⟨(escP htmlK htmlE ss[k].data.toList).toArray⟩ : ByteArray).size ≤ 6000 := by
            have := escP_len (K := htmlK) (E := htmlE) (n := 6) (by omega) (fun c _ => htmlE_len c) ss[k].data.toList
            show (escP htmlK htmlE ss[k].data.toList).toArray.size ≤ _
            simp at this ⊢; omega
          generalize hRR : (⟨(escP htmlK htmlE ss[k].data.toList).toArray⟩ : ByteArray) = R at *
          have hRd : R.data.toList = escP htmlK htmlE ss[k].data.toList := by rw [← hRR]
          rw [← hRd] at hlk hline
          clear hRR hRd
          have HLI := Lib.hid hline
          clear hline
          generalize ss[k] = sk at *
          have hRl : R.data.toList.length = R.size := by simp
          rw [hRl] at hlk
          go_wp2_with (first
            | (go_at_call 105; refine (HM.out _).mono ?_; rintro e w6 ⟨rfl, rfl⟩)
            | (go_at_call 93; refine HR5.out.mono ?_; rintro e w7 ⟨rfl, hl7⟩)
            | (go_at_call 68; refine (buf_string B b _ _ _ HB8.out (Nat.le_trans hBw hl8.size) (by simp only [List.length_append, List.length_cons, List.length_nil]; omega) (by decide)).mono ?_; rintro e w9 ⟨rfl, hb9, hl9, hk9⟩)
            | (go_at_call 68; refine (buf_string B b _ _ _ ((HB5.out.old HA.out.2).old hl7) (Nat.le_trans hBw (Nat.le_trans HA.out.1.size hl7.size)) (by simp only [List.length_append, List.length_cons, List.length_nil]; omega) (by omega)).mono ?_; rintro e w8 ⟨rfl, hb8, hl8', hk8'⟩; have HB8 := Lib.hid hb8; have hl8 := (HA.out.1.trans (hl7.mono (Nat.le_trans hBw HA.out.1.size))).trans hl8'; have hk8 := hk5.trans ((Kept.below (Kept.below (Lib.OthersKept.refl _ _ _) HA.out.2) hl7).trans hk8'); clear hb8 hl8' hk8'))
          go_roundg (gk - 1)
          case measure => omega
          case rel => exact ⟨k + 1, by omega, by go_num, Lib.hid (by rw [sumT, HLI.out]; simpa [List.append_assoc] using hb9), hl8.trans hl9, hk8.trans hk9⟩
        · have hkn : k = ss.length := by omega
          subst hkn
          go_wp2_with (go_at_call 68; refine (buf_string B b _ _ _ HB5.out (Nat.le_trans hBw hl5.size) (by simp only [List.length_append, List.length_cons, List.length_nil]; omega) (by decide)).mono ?_; rintro e w7 ⟨rfl, hb7, hl7, hk7⟩)
          go_end0
          exact ⟨rfl, by rw [hI0]; simpa [List.append_assoc] using hb7, hl5.trans hl7, hk5.trans hk7⟩
    · have hi0 : info.toList.isEmpty = false := by
        rw [Lib.toList_data]
        cases h : info.data.toList with
        | nil =>
          have h1 : info.data.toList.length = info.size := by simp
          exact absurd (h1.symm.trans (congrArg List.length h)) h0
        | cons _ _ => rfl
      have hI0 : infoH info = [32, 99, 108, 97, 115, 115, 61, 34, 108, 97, 110, 103, 117, 97, 103, 101, 45] ++ escP htmlK htmlE info.data.toList ++ [34] := by unfold infoH; rw [if_neg h0]
      rw [hI0] at HLE
      simp only [List.length_append, List.length_cons, List.length_nil] at HLE
      have HSP := Lib.hid (fun c w h1 h2 => md_isUnicodeSpace_letter c w h1 h2)
      have hlet := hinf
      unfold Letters at hlet
      have HLET := Lib.hid hlet
      clear hlet hinf
      go_wp2_with (go_at_call 68; refine (buf_string B b _ _ _ HB1.out (Nat.le_trans hBw hl1.size) (by omega) (by decide)).mono ?_; rintro e w2 ⟨rfl, hb2, hl2', hk2'⟩; have HB2 := Lib.hid hb2; have hl2 := hl1.trans hl2'; have hk2 := hk1.trans hk2'; clear hb2 hl2' hk2' c1 d1 e1; obtain ⟨c2, d2, e2⟩ := HCL.out _ hl2)
      go_loopg [4] info.size (fun gg lang wx => ∃ k, k + gg = info.size ∧ lang = .string info ∧ wx = w2.iter info k)
      case atStart => exact ⟨0, by omega, rfl, rfl⟩
      case round =>
        obtain ⟨k, hk, rfl, rfl⟩ := hrel
        by_cases hlt : k < info.size
        · have hle := HLET.out k hlt
          have hnext : ∀ ty, (Instr.next (.pointer (some ⟨w2.heap.size, 0, none⟩)) true ty).run Tryz.prog (w2.iter info k) = _ := fun ty => run_next_ascii w2 info k ty hlt (by omega)
          have h97 : (97 : Int) ≤ (info[k].toNat : Int) := by omega
          have h122 : (info[k].toNat : Int) ≤ 122 := by omega
          generalize hW : w2.iter info (k + 1) = W2 at *
          go_wp2_with (go_at_call 103; refine (HSP.out _ _ h97 h122).mono ?_; rintro e w' ⟨rfl, rfl⟩)
          go_roundg (gk - 1)
          case measure => omega
          case rel => exact ⟨k + 1, by omega, rfl, hW.symm⟩
        · have hend : ∀ ty, (Instr.next (.pointer (some ⟨w2.heap.size, 0, none⟩)) true ty).run Tryz.prog (w2.iter info k) = _ := fun ty => run_next_end w2 info k ty hlt
          have hl3 : Below B w' (w2.iter info k) := hl2.alloc (Nat.le_trans hBw hl2.size) _
          have hk3 : Kept b w' (w2.iter info k) := Kept.below hk2 ((Below.refl _ _).alloc (Nat.le_refl _) _)
          have HB3 : Hid (Buf B b (l ++ [60, 112, 114, 101, 62, 60, 99, 111, 100, 101]) (w2.iter info k)) := Lib.hid (by have := HB2.out.alloc (Obj.stringIter info k); exact this)
          generalize w2.iter info k = W3 at *
          have HR5 := Lib.hid (md_zzPairs_Replace htmlK htmlE (by decide +kernel) (fun c _ => Nat.le_trans (htmlE_len c) (by decide)) W3.heap.size info (W3.alloc (.cells (pairCells htmlK htmlE) 9)) (heap_alloc_new W3 _) (by omega))
          have HA : Hid (Below B w' (W3.alloc (.cells (pairCells htmlK htmlE) 9)) ∧ Below W3.heap.size W3 (W3.alloc (.cells (pairCells htmlK htmlE) 9))) := Lib.hid ⟨hl3.alloc (Nat.le_trans hBw hl3.size) _, (Below.refl _ _).alloc (Nat.le_refl _) _⟩
          have hRIs : (⟨(escP htmlK htmlE info.data.toList).toArray⟩ : ByteArray).size ≤ 600 := by
            have := escP_len (K := htmlK) (E := htmlE) (n := 6) (by omega) (fun c _ => htmlE_len c) info.data.toList
            show (escP htmlK htmlE info.data.toList).toArray.size ≤ _
            simp at this ⊢; omega
          generalize hRR : (⟨(escP htmlK htmlE info.data.toList).toArray⟩ : ByteArray) = RI at *
          have hRd : RI.data.toList = escP htmlK htmlE info.data.toList := by rw [← hRR]
          rw [← hRd] at HLE hI0
          clear hRR hRd
          have HII := Lib.hid hI0
          clear hI0
          have hRIl : RI.data.toList.length = RI.size := by simp
          rw [hRIl] at HLE
          have HQ := Lib.hid (fun w => md_htmlQuoteEscaper w)
          unfold PairsMade at HQ
          have hst : ((⟨#[32, 99, 108, 97, 115, 115, 61, 34, 108, 97, 110, 103, 117, 97, 103, 101, 45]⟩ : ByteArray) ++ RI ++ ⟨#[34]⟩).size ≤ 1000 := by rw [ByteArray.size_append, ByteArray.size_append]; show 17 + RI.size + 1 ≤ _; omega
          have HST := Lib.hid hst
          clear hst
          go_wp2_with (first
            | (go_at_call 92; refine (HQ.out _).mono ?_; rintro e w6 ⟨rfl, rfl⟩)
            | (go_at_call 93; refine HR5.out.mono ?_; rintro e w7 ⟨rfl, hl7⟩)
            | (go_at_call 68; refine (buf_string B b _ _ _ HB8.out (Nat.le_trans hBw hl8.size) (by simp only [List.length_append, List.length_cons, List.length_nil]; omega) (by decide)).mono ?_; rintro e w9 ⟨rfl, hb9, hl9, hk9⟩; have HB5x := Lib.hid hb9; have hl5x := hl8.trans hl9; have hk5x := hk8.trans hk9; clear hb9 hl9 hk9 c8 d8 e8; obtain ⟨c9, d9, e9⟩ := HCL.out _ hl5x)
            | (go_at_call 68; refine (buf_string B b _ _ _ ((HB3.out.old HA.out.2).old hl7) (Nat.le_trans hBw (Nat.le_trans HA.out.1.size hl7.size)) (by simp only [List.length_append, List.length_cons, List.length_nil]; omega) (Nat.le_trans HST.out (by decide))).mono ?_; rintro e w8 ⟨rfl, hb8, hl8', hk8'⟩; have HB8 : Hid (Buf B b (l ++ [60, 112, 114, 101, 62, 60, 99, 111, 100, 101] ++ ([32, 99, 108, 97, 115, 115, 61, 34, 108, 97, 110, 103, 117, 97, 103, 101, 45] ++ RI.data.toList ++ [34])) w8) := Lib.hid (by simpa [List.append_assoc] using hb8); have hl8 := (HA.out.1.trans (hl7.mono (Nat.le_trans hBw HA.out.1.size))).trans hl8'; have hk8 := hk3.trans ((Kept.below (Kept.below (Lib.OthersKept.refl _ _ _) HA.out.2) hl7).trans hk8'); clear hb8 hl8' hk8'; obtain ⟨c8, d8, e8⟩ := HCL.out _ hl8))
          clear c9 d9 e9
          go_loopg [101] ss.length (fun gg i wx => ∃ k, k + gg = ss.length ∧ i = .int .i64 (k : Nat) ∧ Hid (Buf B b (l ++ [60, 112, 114, 101, 62, 60, 99, 111, 100, 101] ++ ([32, 99, 108, 97, 115, 115, 61, 34, 108, 97, 110, 103, 117, 97, 103, 101, 45] ++ RI.data.toList ++ [34]) ++ [62] ++ sumT (lineH ss) k) wx) ∧ Below B w' wx ∧ Kept b w' wx)
          case atStart => exact ⟨0, by omega, rfl, Lib.hid (by simpa [sumT, List.append_assoc] using HB5x.out), hl5x, hk5x⟩
          case round =>
            obtain ⟨k, hk, rfl, HB5, hl5, hk5⟩ := hrel
            by_cases hlt : k < ss.length
            · have hc := HR.out wr hl5 k hlt
              have hlk := HLN.out (k + 1) hlt
              simp only [sumT, List.length_append] at hlk
              have hline : lineH ss k = escP htmlK htmlE ss[k].data.toList ++ [10] := by unfold lineH; rw [List.getD, List.getElem?_eq_getElem hlt]; rfl
              rw [hline, List.length_append, List.length_cons, List.length_nil] at hlk
              have hsz := hss ss[k] (List.getElem_mem hlt)
              have HR5 := Lib.hid (md_zzPairs_Replace htmlK htmlE (by decide +kernel) (fun c _ => Nat.le_trans (htmlE_len c) (by decide)) wr.heap.size ss[k] (wr.alloc (.cells (pairCells htmlK htmlE) 9)) (heap_alloc_new wr _) (by omega))
              have HA : Hid (Below B w' (wr.alloc (.cells (pairCells htmlK htmlE) 9)) ∧ Below wr.heap.size wr (wr.alloc (.cells (pairCells htmlK htmlE) 9))) := Lib.hid ⟨hl5.alloc (Nat.le_trans hBw hl5.size) _, (Below.refl _ _).alloc (Nat.le_refl _) _⟩
              have hRs : (⟨(escP htmlK htmlE ss[k].data.toList).toArray⟩ : ByteArray).size ≤ 6000 := by
                have := escP_len (K := htmlK) (E := htmlE) (n := 6) (by omega) (fun c _ => htmlE_len c) ss[k].data.toList
                show (escP htmlK htmlE ss[k].data.toList).toArray.size ≤ _
                simp at this ⊢; omega
              generalize hRR : (⟨(escP htmlK htmlE ss[k].data.toList).toArray⟩ : ByteArray) = R at *
              have hRd : R.data.toList = escP htmlK htmlE ss[k].data.toList := by rw [← hRR]
              rw [← hRd] at hlk hline
              clear hRR hRd
              have HLI := Lib.hid hline
              clear hline
              generalize ss[k] = sk at *
              have hRl : R.data.toList.length = R.size := by simp
              rw [hRl] at hlk
              go_wp2_with (first
                | (go_at_call 105; refine (HM.out _).mono ?_; rintro e w6 ⟨rfl, rfl⟩)
                | (go_at_call 93; refine HR5.out.mono ?_; rintro e w7 ⟨rfl, hl7⟩)
                | (go_at_call 68; refine (buf_string B b _ _ _ HB8.out (Nat.le_trans hBw hl8.size) (by simp only [List.length_append, List.length_cons, List.length_nil]; omega) (by decide)).mono ?_; rintro e w9 ⟨rfl, hb9, hl9, hk9⟩)
                | (go_at_call 68; refine (buf_string B b _ _ _ ((HB5.out.old HA.out.2).old hl7) (Nat.le_trans hBw (Nat.le_trans HA.out.1.size hl7.size)) (by simp only [List.length_append, List.length_cons, List.length_nil]; omega) (by omega)).mono ?_; rintro e w8 ⟨rfl, hb8, hl8', hk8'⟩; have HB8 := Lib.hid hb8; have hl8 := (HA.out.1.trans (hl7.mono (Nat.le_trans hBw HA.out.1.size))).trans hl8'; have hk8 := hk5.trans ((Kept.below (Kept.below (Lib.OthersKept.refl _ _ _) HA.out.2) hl7).trans hk8'); clear hb8 hl8' hk8'))
              go_roundg (gk - 1)
              case measure => omega
              case rel => exact ⟨k + 1, by omega, by go_num, Lib.hid (by rw [sumT, HLI.out]; simpa [List.append_assoc] using hb9), hl8.trans hl9, hk8.trans hk9⟩
            · have hkn : k = ss.length := by omega
              subst hkn
              go_wp2_with (go_at_call 68; refine (buf_string B b _ _ _ HB5.out (Nat.le_trans hBw hl5.size) (by simp only [List.length_append, List.length_cons, List.length_nil]; omega) (by decide)).mono ?_; rintro e w7 ⟨rfl, hb7, hl7, hk7⟩)
              go_end0
              exact ⟨rfl, by rw [HII.out]; simpa [List.append_assoc] using hb7, hl5.trans hl7, hk5.trans hk7⟩
theorem CodeBlock_prints {pre : List UInt8 → Prop} {p : Addr} {T : List UInt8} {lo hi : Nat} {w : World} (h : PrintsBy pre 100 p T lo hi w) : Prints pre T lo hi (.iface 82 (.pointer (some p))) w :=
  ⟨_, _, _, rfl, fun w' => by kernel_rfl, enters_of Tryz.func100 (by kernel_rfl) (by kernel_rfl), h⟩
end Go.Proofs.YtnocllocnoodnaaGreatDoor
