/- The package's links of a plain text: one link in a calm text that ends in an address. -/
import Derived.Test.YtbbgdcfbpgmjbaaGreatDoorGather
namespace Go.Proofs.YtbbgdcfbpgmjbaaGreatDoor
open Go.RowKit
theorem alloc_two (w : World) (o1 o2 : Obj) : ((w.alloc o1).alloc o2).heap[w.heap.size + 1]? = some o2 := by
  have s1 : (w.alloc o1).heap.size = w.heap.size + 1 := by simp
  rw [← s1, heap_alloc_new]
theorem md_skip_int (T : ByteArray) (n : Nat) (j : Int) (b : Nat) (w : World) (hs : T.size ≤ 1000) (hn : n ≤ T.size) (hj : j = n) (hb : w.heap[b]? = some (.cells #[.string T, .int .i64 0] 101 (0, 0))) :
    Calls Tryz.prog 22 #[.pointer (some ⟨b, 0, none⟩), .int .i64 j] w fun e w' => e = .returned (.tuple #[]) ∧ ∃ u v, w' = (w.setCell ⟨b, 0, none⟩ u).setCell ⟨b, 1, none⟩ v := by
  subst hj
  exact md_skip T n b w hs hn hb
theorem two_of {vs : List Value} (h : vs.length = 2) : ∃ a b, vs = [a, b] := by
  match vs, h with
  | [a, b], _ => exact ⟨a, b, rfl⟩
/-- the frame at the jump -/
def AtJump (s u x r : ByteArray) (v : Value) (w0 : World) (a : Act) (w : World) : Prop := ∃ g cap, Hid (Jumped s u x r w0 g cap w) ∧ ∃ f : Nat → Value, a = { tmps := #[v, .string r, f 2, f 3, .slice none 0 0, f 5, .slice (some ⟨g, 0, none⟩) 2 cap, f 7, f 8, f 9, f 10, f 11, f 12, f 13, f 14, f 15, f 16, f 17, f 18, f 19, f 20, f 21, f 22, f 23, f 24, f 25, f 26, f 27, f 28, f 29, f 30, f 31, f 32, f 33, f 34, f 35, f 36, f 37, f 38, f 39, f 40, f 41, f 42, f 43, f 44, f 45, f 46, f 47, f 48, f 49, f 50, f 51, f 52, f 53, f 54, f 55, f 56, f 57, f 58, f 59, f 60, f 61, f 62, f 63, f 64, f 65, f 66, f 67, f 68, f 69, f 70, f 71, f 72, f 73, f 74, f 75, f 76, f 77, f 78, f 79, f 80, f 81, f 82, f 83, f 84, f 85, f 86, f 87, f 88, f 89, f 90, f 91, f 92, f 93, f 94, f 95, f 96, f 97, f 98, f 99, f 100, f 101, f 102, f 103, f 104, f 105, f 106, f 107, f 108, f 109, f 110, f 111, f 112, f 113, f 114, f 115, f 116, f 117, f 118, f 119, f 120, f 121, f 122, f 123, f 124, f 125, f 126, f 127, f 128, f 129, f 130, f 131], defers := [] }
theorem list_of (l : List Value) : l = (List.range l.length).map (fun j => l[j]?.getD undef) := by
  refine List.ext_getElem (by simp) ?_
  intro i h1 h2
  simp [List.getElem?_eq_getElem h1]
set_option maxRecDepth 100000 in
theorem range132 (f : Nat → Value) : (List.range 132).map f = [f 0, f 1, f 2, f 3, f 4, f 5, f 6, f 7, f 8, f 9, f 10, f 11, f 12, f 13, f 14, f 15, f 16, f 17, f 18, f 19, f 20, f 21, f 22, f 23, f 24, f 25, f 26, f 27, f 28, f 29, f 30, f 31, f 32, f 33, f 34, f 35, f 36, f 37, f 38, f 39, f 40, f 41, f 42, f 43, f 44, f 45, f 46, f 47, f 48, f 49, f 50, f 51, f 52, f 53, f 54, f 55, f 56, f 57, f 58, f 59, f 60, f 61, f 62, f 63, f 64, f 65, f 66, f 67, f 68, f 69, f 70, f 71, f 72, f 73, f 74, f 75, f 76, f 77, f 78, f 79, f 80, f 81, f 82, f 83, f 84, f 85, f 86, f 87, f 88, f 89, f 90, f 91, f 92, f 93, f 94, f 95, f 96, f 97, f 98, f 99, f 100, f 101, f 102, f 103, f 104, f 105, f 106, f 107, f 108, f 109, f 110, f 111, f 112, f 113, f 114, f 115, f 116, f 117, f 118, f 119, f 120, f 121, f 122, f 123, f 124, f 125, f 126, f 127, f 128, f 129, f 130, f 131] := rfl
set_option maxRecDepth 100000 in
theorem frame_of (a : Act) (x0 x1 x4 x6 : Value) (hs : a.tmps.toList.length = 132) (hd : a.defers = []) (h0 : a.tmps.toList[0]? = some x0) (h1 : a.tmps.toList[1]? = some x1) (h4 : a.tmps.toList[4]? = some x4) (h6 : a.tmps.toList[6]? = some x6) :
    ∃ f : Nat → Value, a = { tmps := #[x0, x1, f 2, f 3, x4, f 5, x6, f 7, f 8, f 9, f 10, f 11, f 12, f 13, f 14, f 15, f 16, f 17, f 18, f 19, f 20, f 21, f 22, f 23, f 24, f 25, f 26, f 27, f 28, f 29, f 30, f 31, f 32, f 33, f 34, f 35, f 36, f 37, f 38, f 39, f 40, f 41, f 42, f 43, f 44, f 45, f 46, f 47, f 48, f 49, f 50, f 51, f 52, f 53, f 54, f 55, f 56, f 57, f 58, f 59, f 60, f 61, f 62, f 63, f 64, f 65, f 66, f 67, f 68, f 69, f 70, f 71, f 72, f 73, f 74, f 75, f 76, f 77, f 78, f 79, f 80, f 81, f 82, f 83, f 84, f 85, f 86, f 87, f 88, f 89, f 90, f 91, f 92, f 93, f 94, f 95, f 96, f 97, f 98, f 99, f 100, f 101, f 102, f 103, f 104, f 105, f 106, f 107, f 108, f 109, f 110, f 111, f 112, f 113, f 114, f 115, f 116, f 117, f 118, f 119, f 120, f 121, f 122, f 123, f 124, f 125, f 126, f 127, f 128, f 129, f 130, f 131], defers := [] } := by
  obtain ⟨⟨l⟩, d⟩ := a
  simp only at hs hd h0 h1 h4 h6
  subst hd
  have := list_of l
  rw [hs, range132] at this
  refine ⟨fun j => l[j]?.getD undef, ?_⟩
  simp only [h0, h1, h4, h6, Option.getD_some] at this
  congr 2

set_option maxHeartbeats 2000000 in
set_option maxRecDepth 1000000 in
theorem md_autoLinkPlain_one (v : Value) (T : ByteArray) (m : Nat) (w : World) (hT : UrlAt T (m + 1)) (H : ∀ k (h : k < T.size), k ≤ m → Calm (T[k].toNat : Int)) (hm : ∀ h : m < T.size, letB (T[m].toNat : Int) = false) :
    Calls Tryz.prog 15 #[v, .string T] w (Linked (T.extract 0 (m + 1)) (T.extract (m + 1) (m + 1 + 7) ++ T.extract (m + 1 + 7) (m + 1 + 10)) (T.extract (m + 1) (m + 1 + 10)) (T.extract (m + 1 + 10) (m + 1 + 11)) w) := by
  have hs := hT.size
  have hsh := hT.short
  have e0 := hT.c0 (by omega)
  have hsp : ∀ h : 0 < (T.extract (m + 1 + 10) (m + 1 + 11)).size, (T.extract (m + 1 + 10) (m + 1 + 11))[0] = 32 := by
    intro h
    have := hT.dom.c3 (by omega)
    rw [← this]
    exact ByteArray.getElem_extract (by omega)
  have hrs : (T.extract (m + 1 + 10) (m + 1 + 11)).size = 1 := by rw [ByteArray.size_extract]; omega
  have hm1 := hm (by omega)
  have H := Lib.hid H
  have HP := Lib.hid (fun w b hb hc => md_parseAutoProto v T (m + 1) b w hT hb hc)
  have HL := Lib.hid (fun c w => md_isLetter c w)
  have HK := Lib.hid (fun w b j hj hb => md_skip_int T (m + 1 + 10) j b w (by omega) (by omega) hj hb)
  obtain ⟨i0, hi, hz0, hz1, hz2⟩ := info_parts inline_info
  have hnil : ∀ W, (binOp .eql 29 (.slice none 0 0) (.slice none 0 0)).run Tryz.prog W = .ok (.bool true) W := fun W => Lib.run_eql_slice_nil_nil W _ _ Tryz.underlying29
  have hnil2 : ∀ W a n c, (binOp .eql 29 (.slice (some a) n c) (.slice none 0 0)).run Tryz.prog W = .ok (.bool false) W := fun W a n c => Lib.run_eql_slice_some_nil W a n c Tryz.underlying29
  clear hT hm
  unfold UrlFound LinkFound at HP
  generalize hr : T.extract (m + 1 + 10) (m + 1 + 11) = r at *
  generalize hu : T.extract (m + 1) (m + 1 + 7) ++ T.extract (m + 1 + 7) (m + 1 + 10) = u at *
  generalize hx : T.extract (m + 1) (m + 1 + 10) = x at *
  go_enter Tryz.func15, Tryz.ntmps15
  go_wp2
  refine wp_scope_jumps 0 (AtJump (T.extract 0 (m + 1)) u x r v w) (fun _ _ => 0) rfl ?_ ?_
  · go_wp2
    go_step3
    go_wp2
    go_loopg [1, 6, 7] (m + 1) (fun gg st o i wx => ∃ k : Nat, k + gg = m + 1 ∧ st = .string T ∧ o = .slice none 0 0 ∧ i = .int .i64 k ∧ wx = w.alloc (.cells #[.string T, .int .i64 0] 101))
    case atStart => exact ⟨0, by omega, rfl, rfl, rfl, rfl⟩
    case round =>
      obtain ⟨k, hk, rfl, rfl, rfl, rfl⟩ := hrel
      by_cases hlt : k ≤ m
      · have hkT : k < T.size := by omega
        obtain ⟨h1, h2, h3, h4, h5⟩ := H.out k hkT hlt
        obtain ⟨c, hc⟩ : ∃ c : Int, (T[k].toNat : Int) = c := ⟨_, rfl⟩
        rw [hc] at h1 h2 h3 h4 h5
        go_wp2
        go_roundg (gk - 1)
        case measure => omega
        case rel => exact ⟨k + 1, by omega, rfl, rfl, by go_num, rfl⟩
      · have hkm : k = m + 1 := by omega
        subst hkm
        clear H
        have c0 : (w.alloc (.cells #[.string T, .int .i64 0] 101)).cell? ⟨w.heap.size, 0, none⟩ = some (.string T) := by rw [Lib.cell_of_heap (heap_alloc_new w _)]; rfl
        have c1 : (w.alloc (.cells #[.string T, .int .i64 0] 101)).cell? ⟨w.heap.size, 1, none⟩ = some (.int .i64 0) := by rw [Lib.cell_of_heap (heap_alloc_new w _)]; rfl
        replace HP := Lib.hid (HP.out _ _ c0 c1)
        clear c0 c1
        go_wp2_with (first
          | (go_at_call 23; refine (HL.out _ _).mono ?_; rintro e w' ⟨rfl, rfl⟩)
          | (go_at_call 24; refine HP.out.mono ?_; rintro e w2 ⟨k, g, h, rfl, h1, h2, h3, h4, h5⟩; have hsz2 := h5.size; have H4 := Lib.hid h4; have H5 := Lib.hid h5; clear h4 h5)
          | (at_builtin; refine wpList_append_lies _ rfl _ _ 29 rfl (w.heap.size + 1) 34 i0 .nilIface 1 16 Tryz.underlying29 hi hz0 hz1 hz2 rfl (by decide) (.slice none 0 0) 0 [] rfl (World.ownsRow_nil _ _ _ _) ⟨w2.heap.size + 1, 0, none⟩ 1 1 [.iface 51 (.pointer (some ⟨w2.heap.size, 0, none⟩))] rfl rfl (World.news_of_block (alloc_two w2 _ _)) (fun u hu => by rw [List.mem_singleton.1 hu]; rfl) (by decide) (by unfold maxLen; omega) (by omega) (by simp at hsz2 ⊢; omega) (w2.heap.size + 1 + 1) (by simp) ?_; intro g1 cap1 w3 hown1 hgrow1 hat1 hlt1; have HAT1 : Hid (g1 = w2.heap.size + 1 + 1) := Lib.hid (hat1.resolve_left (fun h => by cases h)); clear hat1; have HGR1 := Lib.hid hgrow1; have HOWN1 := Lib.hid hown1; have hs3 := hgrow1.size; clear hgrow1 hown1; simp at hs3)
          | (at_builtin; refine wpList_append_lies _ rfl _ _ 29 rfl (w.heap.size + 1) 34 i0 .nilIface 1 16 Tryz.underlying29 hi hz0 hz1 hz2 rfl (by decide) (.slice (some ⟨g1, 0, none⟩) (0 + 1) cap1) (0 + 1) ([] ++ [.iface 51 (.pointer (some ⟨w2.heap.size, 0, none⟩))]) rfl (HOWN1.out.alloc _) ⟨w3.heap.size, 0, none⟩ 1 1 [.iface 69 (.pointer (some ⟨k, 0, none⟩))] rfl rfl (World.news_of_block (heap_alloc_new w3 _)) (fun u hu => by rw [List.mem_singleton.1 hu]; rfl) (by decide) (by unfold maxLen; omega) (by omega) (by simp at hsz2 ⊢; omega) (w3.heap.size + 1) (by simp) ?_; intro g2 cap2 w4 hown2 hgrow2 hat2 hlt2; have HG := Lib.hid (gathered_two (t := r) H5.out h1 h2 h3 H4.out HOWN1.out rfl rfl HGR1.out HAT1.out hown2 rfl rfl hgrow2 hat2); clear hown2 hgrow2 hat2)
          | (go_at_call 22; refine (HK.out _ w.heap.size _ (by omega) (row_kept HG.out.2 (heap_alloc_new w _) (by omega))).mono ?_; rintro e w5 ⟨rfl, a5, b5, rfl⟩))
        refine wp_goto ?_
        exact ⟨rfl, g2, cap2, Lib.hid (jumped rfl HG.out.1 HG.out.2 _ _), frame_of _ _ _ _ _ rfl rfl rfl rfl rfl rfl⟩
  · rintro a' wj ⟨g, cap, HJ, f, rfl⟩
    go_wp2
    go_loopg [1, 6, 7] 1 (fun gg st o i wx => ∃ k : Nat, k + gg = 1 ∧ st = .string r ∧ o = .slice (some ⟨g, 0, none⟩) 2 cap ∧ i = .int .i64 k ∧ wx = wj)
    case atStart => exact ⟨0, by omega, rfl, rfl, rfl, rfl⟩
    case round =>
      obtain ⟨k, hk, rfl, rfl, rfl, rfl⟩ := hrel
      by_cases hlt : k = 0
      · subst hlt
        have hr0 := hsp (by omega)
        go_wp2
        go_roundg (gk - 1)
        case measure => omega
        case rel => exact ⟨1, by omega, rfl, rfl, by go_num, rfl⟩
      · have hk1 : k = 1 := by omega
        subst hk1
        obtain ⟨vs, hl, hM, hB, hs5⟩ := HJ.out
        obtain ⟨va, vb, rfl⟩ := two_of hl
        have HM := Lib.hid hM
        have HO : Hid (wr.ownsRow (w.heap.size + 1) 34 1 (.slice (some ⟨g, 0, none⟩) 2 cap) 2 [va, vb]) := Lib.hid hM.1
        have HB := Lib.hid hB
        clear hM hB HJ
        go_wp2_with (first
          | (at_builtin; refine wpList_append_lies _ rfl _ _ 29 rfl (w.heap.size + 1) 34 i0 .nilIface 1 16 Tryz.underlying29 hi hz0 hz1 hz2 rfl (by decide) (.slice (some ⟨g, 0, none⟩) 2 cap) 2 [va, vb] rfl ((HO.out.alloc _).alloc _) ⟨wr.heap.size + 1, 0, none⟩ 1 1 [.iface 51 (.pointer (some ⟨wr.heap.size, 0, none⟩))] rfl rfl (World.news_of_block (alloc_two wr _ _)) (fun u hu => by rw [List.mem_singleton.1 hu]; rfl) (by decide) (by unfold maxLen; omega) (by omega) (by simp; omega) (wr.heap.size + 1 + 1) (by simp) ?_; intro g3 cap3 w6 hown3 hgrow3 hat3 hlt3; have HX := Lib.hid (linked (t := r) rfl HM.out HB.out hs5 hown3 rfl rfl hgrow3 hat3); clear hown3 hgrow3 hat3))
        simp only [Exit.jump]
        go_ret
        exact HX.out
end Go.Proofs.YtbbgdcfbpgmjbaaGreatDoor
