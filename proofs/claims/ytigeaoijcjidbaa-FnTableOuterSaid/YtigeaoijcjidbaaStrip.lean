/- The laws' word 'stripped': a text without bytes of a class at its front and at its end. -/
import Derived.Test.YtigeaoijcjidbaaOnly
import Derived.Test.YtigeaoijcjidbaaStripPlain
import Derived.Laws.IdiomStrings
import Derived.Deep.CutBlock
namespace Go.Proofs.Ytigeaoijcjidbaa
open Go.RowKit

theorem size_one (c : UInt8) : (⟨#[c]⟩ : ByteArray).size = 1 := rfl
theorem stripped_in (c : UInt8) (b : Nat) (cls : ByteArray) (w : World) (hc : w.cell? ⟨b, 0, none⟩ = some (.string cls)) :
    Calls Try.prog 54 #[.int .u8 (c.toNat : Int), .pointer (some ⟨b, 0, none⟩)] w fun e w' => e = .returned (.bool (inB cls.data.toList (c.toNat : Int))) ∧ Below w.heap.size w w' := by
  have hcv := run_convert_bytes_back (P := Try.prog) (w.alloc (.cells #[.int .u8 (c.toNat : Int)] 5)) 48 9 5 ⟨w.heap.size, 0, none⟩ 1 [c] Try.underlying48 Try.underlying5 Try.underlying9
    (by intro j hj; obtain rfl : j = 0 := by simpa using hj
        simp [Addr.add, World.cell?_alloc_new])
  have hb := World.block_lt_of_cell? _ _ hc
  have hc2 : (w.alloc (.cells #[.int .u8 (c.toNat : Int)] 5)).cell? ⟨b, 0, none⟩ = some (.string cls) := by
    rw [World.cell?_alloc_lt _ _ _ hb]; exact hc
  have hl : ([c] : List UInt8).length = 1 := rfl
  rw [hl] at hcv
  clear hl hb hc
  go_enter Try.func54, Try.ntmps54
  go_wp2_with (go_at_call 21; refine (laws_only _ _ _ _ (by simp [maxLen, size_one])).mono ?_; rintro e w' ⟨rfl, rfl⟩)
  go_ret
  refine ⟨ret_bool ?_, (Below.refl _ _).alloc (Nat.le_refl _) _⟩
  simp [fitB, allB, size_one]
/-- what 'stripped' gives -/
def strippedB (s cls : ByteArray) (front back : Bool) : List UInt8 :=
  let a := if front then stripF (inB cls.data.toList) s.data.toList else s.data.toList
  if back then stripE (inB cls.data.toList) a else a
set_option maxHeartbeats 1000000 in
theorem laws_stripped (s cls : ByteArray) (front back : Bool) (w : World) (hs : s.size ≤ maxLen) :
    Calls Try.prog 23 #[.string s, .string cls, .bool front, .bool back] w fun e w' => e = .returned (.string ⟨(strippedB s cls front back).toArray⟩) ∧ Below w.heap.size w w' := by
  unfold maxLen at hs
  obtain ⟨p, hp⟩ : ∃ p, p = inB cls.data.toList := ⟨_, rfl⟩
  obtain ⟨L, hL⟩ : ∃ L, L = strippedB s cls front back := ⟨_, rfl⟩
  have HL : Hid (L = if back then stripE p (if front then stripF p s.data.toList else s.data.toList) else (if front then stripF p s.data.toList else s.data.toList)) := by subst hp; exact hL
  have Hp := Lib.hid hp
  rw [← hL]
  clear hp hL
  go_enter Try.func23, Try.ntmps23
  go_upto_block 0 with (fail)
  go_cut [0] from 11 to 23 (fun t wx => ∃ x : ByteArray, t = .string x ∧ x.size ≤ s.size ∧ Hid (x.data.toList = if front then stripF p s.data.toList else s.data.toList) ∧ Below w.heap.size w wx ∧ wx.cell? ⟨w.heap.size, 0, none⟩ = some (.string cls))
  case first =>
    go_wp2_with (fail)
    go_loopg [0] s.size (fun g t wx => ∃ x : ByteArray, t = .string x ∧ x.size = g ∧ g ≤ s.size ∧ Hid ((if front then stripF p x.data.toList else x.data.toList) = if front then stripF p s.data.toList else s.data.toList) ∧ Below w.heap.size w wx ∧ wx.cell? ⟨w.heap.size, 0, none⟩ = some (.string cls))
    case atStart => exact ⟨s, rfl, rfl, Nat.le_refl _, Lib.hid rfl, (Below.refl _ _).alloc (Nat.le_refl _) _, by simp [World.cell?_alloc_new]⟩
    case round =>
      obtain ⟨x, rfl, rfl, hg, HR, hbel, hcell⟩ := hrel
      cases front with
      | false =>
        go_wp2_with (fail)
        go_meet
        exact ⟨x, rfl, by omega, by simpa using HR, hbel, hcell⟩
      | true =>
        by_cases h0 : x.size = 0
        · have he : x.toList.isEmpty = true := by rw [Lib.toList_data, empty_of_size h0]; rfl
          have he2 : x.toList = [] := by rw [Lib.toList_data, empty_of_size h0]
          go_wp2_with (fail)
          go_meet
          exact ⟨x, rfl, by omega, by have := HR.out; simp only [if_true, empty_of_size h0, stripF_nil] at this ⊢; exact this, hbel, hcell⟩
        · have h0' : 0 < x.size := by omega
          have hne : x.toList.isEmpty = false := by rw [Lib.toList_data, toList_head x h0']; rfl
          have hne2 : ¬ x.toList = [] := by rw [Lib.toList_data, toList_head x h0']; simp
          have hd := Lib.hid (toList_head x h0')
          have HC := Lib.hid (stripped_in x[0] w.heap.size cls wr hcell)
          rw [← Hp.out] at HC
          cases hB : p (x[0].toNat : Int) with
          | true =>
            rw [hB] at HC
            go_wp2_with (go_at_call 54; refine HC.out.mono ?_; rintro e w2 ⟨rfl, hb2⟩)
            go_roundg (x.size - 1)
            case measure => omega
            case rel =>
              refine ⟨x.extract 1 x.size, rfl, by rw [ByteArray.size_extract]; omega, by omega, Lib.hid ?_, hbel.trans (hb2.mono hbel.size), (hb2.cell (p := ⟨w.heap.size, 0, none⟩) (World.block_lt_of_cell? _ _ hcell)).trans hcell⟩
              have h1 := HR.out
              simp only [if_true] at h1 ⊢
              rw [← h1, hd.out, stripF_cons_yes hB]
          | false =>
            rw [hB] at HC
            go_wp2_with (go_at_call 54; refine HC.out.mono ?_; rintro e w2 ⟨rfl, hb2⟩)
            go_meet
            refine ⟨x, rfl, by omega, Lib.hid ?_, hbel.trans (hb2.mono hbel.size), (hb2.cell (p := ⟨w.heap.size, 0, none⟩) (World.block_lt_of_cell? _ _ hcell)).trans hcell⟩
            have h1 := HR.out
            simp only [if_true] at h1 ⊢
            rw [← h1, hd.out, stripF_cons_no hB]
  case rest =>
    obtain ⟨x0, rfl, hx0, HX, hbel0, hcell0⟩ := hcut
    go_wp2_with (fail)
    go_loopg [0] x0.size (fun g t wx => ∃ x : ByteArray, t = .string x ∧ x.size = g ∧ g ≤ s.size ∧ Hid (L = if back then stripE p x.data.toList else x.data.toList) ∧ Below w.heap.size w wx ∧ wx.cell? ⟨w.heap.size, 0, none⟩ = some (.string cls))
    case atStart => exact ⟨x0, rfl, rfl, hx0, Lib.hid (by rw [HX.out]; exact HL.out), hbel0, hcell0⟩
    case round =>
      obtain ⟨x, rfl, rfl, hg, HR, hbel, hcell⟩ := hrel
      clear HX HL hbel0 hcell0
      cases back with
      | false =>
        go_wp2_with (fail)
        go_ret
        exact ⟨ret_str (by have := HR.out; simp only [Bool.false_eq_true, if_false] at this; rw [this, Lib.mk_data]), hbel⟩
      | true =>
        by_cases h0 : x.size = 0
        · have he : x.toList.isEmpty = true := by rw [Lib.toList_data, empty_of_size h0]; rfl
          have he2 : x.toList = [] := by rw [Lib.toList_data, empty_of_size h0]
          go_wp2_with (fail)
          go_ret
          exact ⟨ret_str (by have := HR.out; simp only [if_true, empty_of_size h0, stripE_nil] at this; rw [this, ← empty_of_size h0, Lib.mk_data]), hbel⟩
        · have h0' : 0 < x.size := by omega
          have hne : x.toList.isEmpty = false := by rw [Lib.toList_data, toList_head x h0']; rfl
          have hne2 : ¬ x.toList = [] := by rw [Lib.toList_data, toList_head x h0']; simp
          have hd := Lib.hid (toList_last x h0')
          have HC := Lib.hid (stripped_in x[x.size - 1] w.heap.size cls wr hcell)
          rw [← Hp.out] at HC
          cases hB : p (x[x.size - 1].toNat : Int) with
          | true =>
            rw [hB] at HC
            go_wp2_with (go_at_call 54; refine HC.out.mono ?_; rintro e w2 ⟨rfl, hb2⟩)
            go_roundg (x.size - 1)
            case measure => omega
            case rel =>
              refine ⟨x.extract 0 (x.size - 1), rfl, by rw [ByteArray.size_extract]; omega, by omega, Lib.hid ?_, hbel.trans (hb2.mono hbel.size), (hb2.cell (p := ⟨w.heap.size, 0, none⟩) (World.block_lt_of_cell? _ _ hcell)).trans hcell⟩
              have h1 := HR.out
              simp only [if_true] at h1 ⊢
              rw [h1, hd.out, stripE_snoc_yes hB]
          | false =>
            rw [hB] at HC
            go_wp2_with (go_at_call 54; refine HC.out.mono ?_; rintro e w2 ⟨rfl, hb2⟩)
            go_ret
            refine ⟨ret_str ?_, hbel.trans (hb2.mono hbel.size)⟩
            have h1 := HR.out
            simp only [if_true] at h1
            rw [h1, hd.out, stripE_snoc_no hB, ← hd.out, Lib.mk_data]
end Go.Proofs.Ytigeaoijcjidbaa
