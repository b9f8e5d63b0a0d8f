/- HTML of inlines: plain texts and links, written into a buffer of the call's own. -/
import Derived.Test.YtnocllocnoodnaaGreatDoorPut
import Derived.Lib.BufferOld
import Derived.Lib.BufferKept
import Derived.Deep.RegionWith
import Derived.Deep.LoopGhost
import Derived.Deep.DeepCutAuto
namespace Go.Proofs.YtnocllocnoodnaaGreatDoor
open Go.RowKit
theorem Buf.lt {B b : Nat} {l : List UInt8} {w : World} (h : Buf B b l w) : b < w.heap.size := Lib.IsBuffer.lt h
theorem Buf.alloc {B b : Nat} {l : List UInt8} {w : World} (h : Buf B b l w) (o : Obj) : Buf B b l (w.alloc o) := Lib.IsBuffer.alloc h o
theorem Buf.old {B b : Nat} {l : List UInt8} {w w' : World} (h : Buf B b l w) (hb : Below w.heap.size w w') : Buf B b l w' := Lib.IsBuffer.old h hb
theorem Kept.below {b : Nat} {a w w' : World} (h : Kept b a w) (hb : Below w.heap.size w w') : Kept b a w' := Lib.OthersKept.below h hb
theorem html_count : htmlK.length ≤ 1000 := by decide
/-- a plain text lies in block g -/
def PlainIn (t : ByteArray) (g : Nat) (w : World) : Prop := w.heap[g]? = some (.cells #[.string t] 168 (0, 0))
theorem PlainIn.kept {t : ByteArray} {g b : Nat} {w w' : World} (h : PlainIn t g w) (hg : g ≠ b) (hk : Kept b w w') : PlainIn t g w' :=
  hk g _ h (fun e => hg (Option.some.inj e)) (by intro c fz e; injection e with _ h2 _; exact absurd h2 (by decide))
theorem PlainIn.lt {t : ByteArray} {g : Nat} {w : World} (h : PlainIn t g w) : g < w.heap.size := by
  rcases Nat.lt_or_ge g w.heap.size with h' | h'
  · exact h'
  · unfold PlainIn at h; rw [Array.getElem?_eq_none h'] at h; cases h
/-- the call writes these bytes behind those that the buffer holds -/
def Wrote (B b : Nat) (l m : List UInt8) (w : World) (e : Ending) (w' : World) : Prop := e = .returned (.tuple #[]) ∧ Buf B b (l ++ m) w' ∧ Below B w w' ∧ Kept b w w'
theorem md_Plain_PrintHTML (t : ByteArray) (B b g : Nat) (l : List UInt8) (w : World) (hb : Buf B b l w) (hBw : B ≤ w.heap.size) (hg : PlainIn t g w) (hl : l.length ≤ 1000000) (ht : t.size ≤ 100000) :
    Calls Tryz.prog 165 #[.pointer (some ⟨g, 0, none⟩), .pointer (some ⟨b, 0, none⟩)] w (Wrote B b l (escP htmlK htmlE t.data.toList) w) := by
  have hc : w.cell? ⟨g, 0, none⟩ = some (.string t) := by rw [Lib.cell_of_heap hg]; rfl
  have hgl := hg.lt
  have hc1 : (w.alloc (.cells (pairCells htmlK htmlE) 9)).cell? ⟨g, 0, none⟩ = some (.string t) := by rw [World.cell?_alloc_lt _ _ _ hgl]; exact hc
  have HM := Lib.hid (fun w => md_htmlEscaper w)
  have HW := Lib.hid (md_zzPairs_WriteString htmlK htmlE html_count (fun c _ => Nat.le_trans (htmlE_len c) (by decide)) B b w.heap.size l t (w.alloc (.cells (pairCells htmlK htmlE) 9)).drew (hb.alloc _) (by show B ≤ (w.alloc _).heap.size; simp; omega) (heap_alloc_new w _) (Nat.ne_of_gt hb.lt) hl (by omega))
  have HA : Hid (Below B w (w.alloc (.cells (pairCells htmlK htmlE) 9)).drew ∧ Kept b w (w.alloc (.cells (pairCells htmlK htmlE) 9)).drew) := Lib.hid ⟨((Below.refl _ _).alloc hBw _).drew, Kept.below (Lib.OthersKept.refl _ _ _) (((Below.refl _ _).alloc (Nat.le_refl _) _).drew)⟩
  unfold PairsMade at HM
  unfold Wrote
  clear hg hb
  generalize htmlK = K at *
  generalize htmlE = E at *
  generalize escP K E t.data.toList = M at *
  go_enter Tryz.func165, Tryz.ntmps165
  go_wp2_with (fail)
  go_region_with (first
    | (go_at_call 105; refine (HM.out _).mono ?_; rintro e w1 ⟨rfl, rfl⟩)
    | (go_at_call 96; refine HW.out.mono ?_; rintro e w2 ⟨rfl, hb2, hl2, hk2⟩))
  all_goals (go_wp2; go_end0; exact ⟨rfl, hb2, HA.out.1.trans hl2, HA.out.2.trans hk2⟩)
end Go.Proofs.YtnocllocnoodnaaGreatDoor
namespace Go.Proofs.YtnocllocnoodnaaGreatDoor
open Go.RowKit
/-- these values lie at the front of block g, whose elements have this type -/
def RowAt (e : TypeId) (g : Nat) (xs : List Value) (w : World) : Prop := ∃ cur, w.heap[g]? = some (.cells cur e (0, 0)) ∧ cur.toList.take xs.length = xs
theorem RowAt.cell {e : TypeId} {g : Nat} {xs : List Value} {w : World} (h : RowAt e g xs w) (j : Nat) (hj : j < xs.length) : w.cell? ⟨g, j, none⟩ = some xs[j] := by
  obtain ⟨cur, h1, h2⟩ := h
  rw [cell_of_row w g j cur e (0, 0) h1]
  have h3 : (cur.toList.take xs.length)[j]? = some xs[j] := by rw [h2]; exact List.getElem?_eq_getElem hj
  rw [List.getElem?_take_of_lt hj] at h3
  rw [← Array.getElem?_toList]; exact h3
theorem RowAt.lt {e : TypeId} {g : Nat} {xs : List Value} {w : World} (h : RowAt e g xs w) : g < w.heap.size := by
  obtain ⟨cur, h1, _⟩ := h
  exact (Array.getElem?_eq_some_iff.1 h1).1
theorem RowAt.kept {e : TypeId} {g b : Nat} {xs : List Value} {w w' : World} (h : RowAt e g xs w) (he : e ≠ 5) (hg : g ≠ b) (hk : Kept b w w') : RowAt e g xs w' := by
  obtain ⟨cur, h1, h2⟩ := h
  exact ⟨cur, hk g _ h1 (fun e => hg (Option.some.inj e)) (by intro c fz x; injection x with _ h2 _; exact absurd h2 he), h2⟩
theorem RowAt.below {e : TypeId} {g B : Nat} {xs : List Value} {w w' : World} (h : RowAt e g xs w) (hg : g < B) (hk : Below B w w') : RowAt e g xs w' := by
  obtain ⟨cur, h1, h2⟩ := h
  exact ⟨cur, by rw [hk.block g hg]; exact h1, h2⟩
/-- a link of a plain text lies in block k: its one inline in block g, that one's text in block h -/
structure LinkIn (url text : ByteArray) (k g h : Nat) (w : World) : Prop where
  link : ∃ cap f, w.heap[k]? = some (.cells #[.slice (some ⟨g, 0, none⟩) 1 cap, .string url, .string ⟨#[]⟩, .int .u8 0, f] 112 (0, 0))
  kid : RowAt 135 g [.iface 171 (.pointer (some ⟨h, 0, none⟩))] w
  text : PlainIn text h w
theorem LinkIn.kept {url text : ByteArray} {k g h b : Nat} {w w' : World} (x : LinkIn url text k g h w) (hk : k ≠ b) (hg : g ≠ b) (hh : h ≠ b) (hx : Kept b w w') : LinkIn url text k g h w' := by
  obtain ⟨⟨cap, f, h1⟩, h2, h3⟩ := x
  exact ⟨⟨cap, f, hx k _ h1 (fun e => hk (Option.some.inj e)) (by intro c fz e; injection e with _ h2 _; exact absurd h2 (by decide))⟩,
    h2.kept (by decide) hg hx, h3.kept hh hx⟩
theorem LinkIn.cell0 {url text : ByteArray} {k g h : Nat} {w : World} (x : LinkIn url text k g h w) : ∃ cap, w.cell? ⟨k, 0, none⟩ = some (.slice (some ⟨g, 0, none⟩) 1 cap) := by
  obtain ⟨⟨cap, f, h1⟩, _, _⟩ := x
  exact ⟨cap, by rw [Lib.cell_of_heap h1]; rfl⟩
theorem LinkIn.kid0 {url text : ByteArray} {k g h : Nat} {w : World} (x : LinkIn url text k g h w) : w.cell? ⟨g, 0, none⟩ = some (.iface 171 (.pointer (some ⟨h, 0, none⟩))) := by
  exact x.kid.cell 0 (by simp)
/-- the HTML of such a link -/
def linkH (url text : ByteArray) : List UInt8 := [60, 97, 32, 104, 114, 101, 102, 61, 34] ++ escP linkK linkE url.data.toList ++ [34] ++ [62] ++ escP htmlK htmlE text.data.toList ++ [60, 47, 97, 62]
set_option maxHeartbeats 4000000 in
set_option maxRecDepth 100000 in
theorem md_Link_PrintHTML (url text : ByteArray) (B b k g h : Nat) (l : List UInt8) (w : World) (hb : Buf B b l w) (hBw : B ≤ w.heap.size) (hx : LinkIn url text k g h w) (hk : k ≠ b) (hg : g ≠ b) (hh : h ≠ b) (hl : l.length ≤ 100000) (hu : url.size ≤ 1000) (ht : text.size ≤ 1000) :
    Calls Tryz.prog 114 #[.pointer (some ⟨k, 0, none⟩), .pointer (some ⟨b, 0, none⟩)] w (Wrote B b l (linkH url text) w) := by
  obtain ⟨⟨cap, f, hb0⟩, hb1, hb2⟩ := hx
  have hX : LinkIn url text k g h w := ⟨⟨cap, f, hb0⟩, hb1, hb2⟩
  have hkl : k < w.heap.size := (Array.getElem?_eq_some_iff.1 hb0).1
  have c1 : w.cell? ⟨k, 1, none⟩ = some (.string url) := by rw [Lib.cell_of_heap hb0]; rfl
  have c1' : (w.alloc (.cells (pairCells linkK linkE) 9)).cell? ⟨k, 1, none⟩ = some (.string url) := by rw [World.cell?_alloc_lt _ _ _ hkl]; exact c1
  have HM := Lib.hid (fun w => md_htmlLinkEscaper w)
  have HR := md_zzPairs_Replace linkK linkE (by decide +kernel) (fun c _ => Nat.le_trans (linkE_len c) (by decide)) w.heap.size url (w.alloc (.cells (pairCells linkK linkE) 9)).drew (heap_alloc_new w _) (by omega)
  have HRs : (⟨(escP linkK linkE url.data.toList).toArray⟩ : ByteArray).size ≤ 5000 := by
    have := escP_len (K := linkK) (E := linkE) (n := 5) (by omega) (fun c _ => linkE_len c) url.data.toList
    show (escP linkK linkE url.data.toList).toArray.size ≤ _
    simp at this ⊢; omega
  have HA : Hid (Below B w (w.alloc (.cells (pairCells linkK linkE) 9)).drew ∧ Below w.heap.size w (w.alloc (.cells (pairCells linkK linkE) 9)).drew) := Lib.hid ⟨((Below.refl _ _).alloc hBw _).drew, ((Below.refl _ _).alloc (Nat.le_refl _) _).drew⟩
  replace HR := Lib.hid HR
  have HX := Lib.hid hX
  have HB := Lib.hid hb
  have HL : Hid (linkH url text = [60, 97, 32, 104, 114, 101, 102, 61, 34] ++ escP linkK linkE url.data.toList ++ [34] ++ [62] ++ escP htmlK htmlE text.data.toList ++ [60, 47, 97, 62]) := Lib.hid rfl
  unfold PairsMade at HM
  unfold Wrote
  clear hX hb hb0 hb1 hb2
  generalize linkH url text = LH at *
  generalize hRR : (⟨(escP linkK linkE url.data.toList).toArray⟩ : ByteArray) = R at *
  have hRd : R.data.toList = escP linkK linkE url.data.toList := by rw [← hRR]
  rw [← hRd] at HL
  clear hRR hRd
  generalize linkK = K at *
  generalize linkE = E at *
  go_enter Tryz.func114, Tryz.ntmps114
  go_upto_region 0 with (fail)
  go_cut [15] from 6 to 15 (fun _ wx => Buf B b (l ++ ([60, 97, 32, 104, 114, 101, 102, 61, 34] ++ R.data.toList ++ [34])) wx ∧ Below B w wx ∧ Kept b w wx)
  case first =>
    go_region_with (first
      | (go_at_call 115; refine (HM.out _).mono ?_; rintro e w1 ⟨rfl, rfl⟩)
      | (go_at_call 93; refine HR.out.mono ?_; rintro e w2 ⟨rfl, hl2⟩)
      | (go_at_call 68; refine (buf_string B b l _ _ ((HB.out.old HA.out.2).old hl2) (Nat.le_trans hBw (Nat.le_trans HA.out.2.size hl2.size)) (by omega) (by rw [ByteArray.size_append, ByteArray.size_append]; show 9 + R.size + 1 ≤ _; omega)).mono ?_; rintro e w3 ⟨rfl, hb3, hl3, hk3⟩))
    all_goals
      go_wp2
      go_meet
      refine ⟨by simpa using hb3, (HA.out.1.trans (hl2.mono (Nat.le_trans hBw HA.out.2.size))).trans hl3, (Kept.below (Kept.below (Lib.OthersKept.refl _ _ _) HA.out.2) hl2).trans hk3⟩
  case rest =>
    obtain ⟨hb3, hl3, hk3⟩ := hcut
    clear HM HR HA HB c1 c1'
    have HX3 := HX.out.kept hk hg hh hk3
    obtain ⟨⟨cap3, f, x1⟩, x2, x3⟩ := HX3
    have c2 : wc.cell? ⟨k, 2, none⟩ = some (.string ⟨#[]⟩) := by rw [Lib.cell_of_heap x1]; rfl
    have c0 : wc.cell? ⟨k, 0, none⟩ = some (.slice (some ⟨g, 0, none⟩) 1 cap3) := by rw [Lib.cell_of_heap x1]; rfl
    have hB3 : B ≤ wc.heap.size := Nat.le_trans hBw hl3.size
    have hn3 : (l ++ ([60, 97, 32, 104, 114, 101, 102, 61, 34] ++ R.data.toList ++ [34])).length ≤ 110000 := by
      have : R.data.toList.length = R.size := by simp
      simp only [List.length_append, this]; show l.length + (9 + R.size + 1) ≤ _; omega
    clear HRs x1 x2 x3
    go_wp2_with (go_at_call 68; refine (buf_string B b _ _ _ hb3 hB3 (by omega) (by decide)).mono ?_; rintro e w4 ⟨rfl, hb4, hl4, hk4⟩; have hx4 := HX.out.kept hk hg hh (hk3.trans hk4); have HX4 := Lib.hid hx4; obtain ⟨cap4, d0⟩ := hx4.cell0; have d1 := hx4.kid0; clear hx4)
    have hl5 : Below B w w4 := hl3.trans hl4
    have hk5 : Kept b w w4 := hk3.trans hk4
    have HT5 := Lib.hid HX4.out.text
    clear hb3 hl3 hk3 hl4 hk4 c0 c2 hB3
    have hB4 : B ≤ w4.heap.size := Nat.le_trans hBw hl5.size
    have HPP := Lib.hid (md_Plain_PrintHTML text B b h _ w4 hb4 hB4 HT5.out (by rw [List.length_append]; show _ + 1 ≤ _; omega) (by omega))
    unfold Wrote at HPP
    have hm1 : ∀ (a : Addr) (w : World), (method 327 171 (.pointer (some a)) "PrintHTML").run Tryz.prog w = .ok (165, .pointer (some a)) w := fun _ _ => by kernel_rfl
    go_loopg [38] 1 (fun gg i wx => (gg = 1 ∧ i = .int .i64 0 ∧ w4 = wx) ∨ (gg = 0 ∧ i = .int .i64 1 ∧ Hid (Buf B b (l ++ ([60, 97, 32, 104, 114, 101, 102, 61, 34] ++ R.data.toList ++ [34]) ++ [62] ++ escP htmlK htmlE text.data.toList) wx) ∧ Below B w wx ∧ Kept b w wx))
    case atStart => exact .inl ⟨rfl, rfl, rfl⟩
    case round =>
      rcases hrel with ⟨rfl, rfl, rfl⟩ | ⟨rfl, rfl, HB6, hl6, hk6⟩
      · go_wp2_with (go_at_call 165; refine HPP.out.mono ?_; rintro e w6 ⟨rfl, hb6, hl6, hk6⟩)
        go_roundg 0
        case measure => omega
        case rel => exact .inr ⟨rfl, rfl, Lib.hid hb6, hl5.trans hl6, hk5.trans hk6⟩
      · have hn6 : (l ++ ([60, 97, 32, 104, 114, 101, 102, 61, 34] ++ R.data.toList ++ [34]) ++ [62] ++ escP htmlK htmlE text.data.toList).length ≤ 1000000 := by
          have h1 := escP_len (K := htmlK) (E := htmlE) (n := 6) (by omega) (fun c _ => htmlE_len c) text.data.toList
          rw [List.length_append, List.length_append]
          simp at h1
          show _ + 1 + _ ≤ _
          omega
        have hB6 : B ≤ wr.heap.size := Nat.le_trans hBw hl6.size
        go_wp2_with (go_at_call 68; refine (buf_string B b _ _ _ HB6.out hB6 (by omega) (by decide)).mono ?_; rintro e w7 ⟨rfl, hb7, hl7, hk7⟩)
        go_end0
        refine ⟨rfl, ?_, hl6.trans hl7, hk6.trans hk7⟩
        rw [HL.out]
        simpa using hb7
end Go.Proofs.YtnocllocnoodnaaGreatDoor
