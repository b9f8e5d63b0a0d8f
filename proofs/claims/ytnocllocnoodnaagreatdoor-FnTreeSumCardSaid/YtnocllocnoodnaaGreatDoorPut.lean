/- The package's Replace by pairs: WriteString into a buffer of the call's own, Replace. -/
import Derived.Test.YtnocllocnoodnaaGreatDoorPairsBoth
import Derived.Test.YtnocllocnoodnaaGreatDoorShelf
import Derived.Test.YtnocllocnoodnaaGreatDoorBottom
import Derived.Deep.LoopGhost
import Derived.WalkMore
import Derived.Deep.QuietTactic
import Derived.BigQuiet
namespace Go.Proofs.YtnocllocnoodnaaGreatDoor
open Go.RowKit
/-- a buffer in block b (from B on) that holds these bytes -/
def Buf (B b : Nat) (l : List UInt8) (w : World) : Prop := Lib.IsBuffer 53 5 B b (Lib.byteCells l) w
theorem buf_bytes_snoc (l : List UInt8) (c : UInt8) : Lib.byteCells (l ++ [c]) = Lib.byteCells l ++ [.int .u8 (c.toNat : Int)] := by
  unfold Lib.byteCells; rw [List.map_append]; rfl
theorem buf_bytes_app (l m : List UInt8) : Lib.byteCells (l ++ m) = Lib.byteCells l ++ Lib.byteCells m := by
  unfold Lib.byteCells; rw [List.map_append]
/-- blocks other than the buffer's and rows of bytes stand -/
abbrev Kept (b : Nat) (w w' : World) : Prop := Lib.OthersKept 5 (some b) w w'
theorem buf_byte (B b : Nat) (l : List UInt8) (c : UInt8) (w : World) (h : Buf B b l w) (hBw : B ≤ w.heap.size) (hlen : l.length ≤ 100000000) :
    Calls Tryz.prog 94 #[.pointer (some ⟨b, 0, none⟩), .int .u8 (c.toNat : Int)] w fun e w' => e = .returned .nilIface ∧ Buf B b (l ++ [c]) w' ∧ Below B w w' ∧ Kept b w w' := by
  unfold Buf
  rw [buf_bytes_snoc]
  exact Tryz.Buffer_WriteByte_k B b _ _ w h hBw (Lib.byteCells_one _) (by rw [Lib.byteCells_length]; omega)
theorem buf_string (B b : Nat) (l : List UInt8) (s : ByteArray) (w : World) (h : Buf B b l w) (hBw : B ≤ w.heap.size) (hlen : l.length ≤ 100000000) (hs : s.size ≤ 100000000) :
    Calls Tryz.prog 68 #[.pointer (some ⟨b, 0, none⟩), .string s] w fun e w' => e = .returned (.tuple #[.int .i64 s.size, .nilIface]) ∧ Buf B b (l ++ s.data.toList) w' ∧ Below B w w' ∧ Kept b w w' := by
  unfold Buf
  rw [buf_bytes_app]
  exact Tryz.Buffer_WriteString_k B b _ s w h hBw (Lib.byteCells_one _) (by rw [Lib.byteCells_length]; omega)
theorem bel_drewP {B : Nat} {a w : World} (h : Below B a w) (n : Nat) : Below B a (w.drewN n) := ⟨h.os, h.tape, h.output, h.size, h.block⟩
/-- the pairs lie in block g -/
def PairsIn (K : List UInt8) (E : UInt8 → List UInt8) (g : Nat) (w : World) : Prop := w.heap[g]? = some (.cells (pairCells K E) 9 (0, 0))
theorem PairsIn.kept {K : List UInt8} {E : UInt8 → List UInt8} {g b : Nat} {w w' : World} (h : PairsIn K E g w) (hg : g ≠ b) (hk : Kept b w w') : PairsIn K E g w' :=
  hk g _ h (fun e => hg (Option.some.inj e)) (by intro c fz e; injection e with _ h2 _; exact absurd h2 (by decide))
theorem PairsIn.cell {K : List UInt8} {E : UInt8 → List UInt8} {g : Nat} {w : World} (h : PairsIn K E g w) (n : Nat) : w.cell? ⟨g, n, none⟩ = (pairCells K E)[n]? := Lib.cell_of_heap h n
set_option maxHeartbeats 2000000 in
theorem md_zzPairs_WriteString (K : List UInt8) (E : UInt8 → List UInt8) (hK : K.length ≤ 1000) (hE : ∀ c ∈ K, (E c).length ≤ 10) (B b g : Nat) (l : List UInt8) (s : ByteArray) (w : World)
    (hb : Buf B b l w) (hBw : B ≤ w.heap.size) (hg : PairsIn K E g w) (hgb : g ≠ b) (hl : l.length ≤ 1000000) (hs : s.size ≤ 1000000) :
    Calls Tryz.prog 96 #[.slice (some ⟨g, 0, none⟩) (2 * K.length) (2 * K.length), .pointer (some ⟨b, 0, none⟩), .string s] w fun e w' =>
      e = .returned (.tuple #[]) ∧ Buf B b (l ++ escP K E s.data.toList) w' ∧ Below B w w' ∧ Kept b w w' := by
  have hrefl : Below B w w := Below.refl _ _
  have hkrefl : Kept b w w := Lib.OthersKept.refl _ _ _
  have HE := Lib.hid hE
  clear hE
  go_enter Tryz.func96, Tryz.ntmps96
  go_wp2
  go_step3
  go_wp2
  go_step3
  go_wp2
  go_loopg [6] s.size (fun gg j wx => ∃ k : Nat, k + gg = s.size ∧ j = .int .i64 k ∧ Hid (Buf B b (l ++ escP K E (s.data.toList.take k)) wx) ∧ Hid (PairsIn K E g wx) ∧ Below B w wx ∧ Kept b w wx)
  case atStart => exact ⟨0, by omega, rfl, Lib.hid (by simpa [escP] using hb), Lib.hid hg, hrefl, hkrefl⟩
  case round =>
    obtain ⟨k, hkg, rfl, HB, HP, hbel, hkept⟩ := hrel
    clear hrefl hkrefl hb hg
    have hsz := hbel.size
    by_cases hk : k < s.size
    · go_wp2_with (fail)
      go_loopg [7] K.length (fun gg j wx => ∃ m : Nat, m + gg = K.length ∧ j = .int .i64 ((2 * m : Nat) : Int) ∧ Hid (∀ i, i < m → K[i]? ≠ some s[k]) ∧ Hid (Buf B b (l ++ escP K E (s.data.toList.take k)) wx) ∧ Hid (PairsIn K E g wx) ∧ Below B w wx ∧ Kept b w wx)
      case atStart => exact ⟨0, by omega, rfl, Lib.hid (fun i hi => absurd hi (by omega)), HB, HP, hbel, hkept⟩
      case round =>
        clear HB HP hbel hkept hsz
        obtain ⟨m, hmg, rfl, HN, HB, HP, hbel, hkept⟩ := hrel
        have hsz : B ≤ wr.heap.size := Nat.le_trans hBw hbel.size
        have hlen : (l ++ escP K E (s.data.toList.take k)).length ≤ 100000000 := by
          have h1 := escP_len (K := K) (E := E) (n := 10) (by omega) HE.out (s.data.toList.take k)
          have h2 := List.length_take_le k s.data.toList
          rw [List.length_append]; omega
        have hstep : escP K E (s.data.toList.take (k + 1)) = escP K E (s.data.toList.take k) ++ (if K.contains s[k] then E s[k] else [s[k]]) := by
          rw [take_snoc s k hk, escP_append, escP_one]
        have HST := Lib.hid hstep
        clear hstep
        by_cases hm : m < K.length
        · have c0 := (HP.out.cell (2 * m)).trans (pairCells_get (E := E) hm).1
          have c1 := (HP.out.cell (2 * m + 1)).trans (pairCells_get (E := E) hm).2
          unfold strV at c1
          by_cases hc : s[k] = K[m]
          · have e1 : ((s[k].toNat : Int) == (((⟨#[K[m]]⟩ : ByteArray)[0]'Nat.one_pos).toNat : Int)) = true := by rw [hc]; exact beq_iff_eq.2 rfl
            have hel : (E K[m]).length ≤ 10 := HE.out _ (List.getElem_mem hm)
            have HC : Hid (escP K E (s.data.toList.take (k + 1)) = escP K E (s.data.toList.take k) ++ E K[m]) := Lib.hid (by
              rw [HST.out, hc, if_pos (by simp)])
            clear hc HST HN
            go_wp2_with (fail)
            go_quiet (fail)
            go_wp2_with (go_at_call 68; refine (buf_string B b (l ++ escP K E (s.data.toList.take k)) ⟨(E K[m]).toArray⟩ (wr.drewN nq) HB.out hsz hlen (by show (E K[m]).length ≤ _; omega)).mono ?_; rintro e w2 ⟨rfl, hb2, hl2, hk2⟩)
            go_roundg (s.size - (k + 1))
            case measure => omega
            case rel => exact ⟨k + 1, by omega, by go_num, Lib.hid (by rw [HC.out, ← List.append_assoc]; exact hb2), Lib.hid (HP.out.kept hgb hk2), (bel_drewP hbel _).trans hl2, hkept.trans hk2⟩
          · have e1 : ((s[k].toNat : Int) == (((⟨#[K[m]]⟩ : ByteArray)[0]'Nat.one_pos).toNat : Int)) = false := beq_eq_false_iff_ne.2 (fun h => hc (UInt8.toNat_inj.1 (Int.ofNat.inj h)))
            have HN2 : Hid (∀ i, i < m + 1 → K[i]? ≠ some s[k]) := Lib.hid (fun i hi => by
              by_cases him : i = m
              · subst him; rw [List.getElem?_eq_getElem hm]; intro e; exact hc (Option.some.inj e).symm
              · exact HN.out i (by omega))
            clear hc HST HN
            go_wp2_with (fail)
            go_quiet (fail)
            go_wp2_with (fail)
            go_roundg (K.length - (m + 1))
            case measure => omega
            case rel => exact ⟨m + 1, by omega, by go_num, HN2, HB, HP, bel_drewP hbel _, hkept⟩
        · have HC : Hid (escP K E (s.data.toList.take (k + 1)) = escP K E (s.data.toList.take k) ++ [s[k]]) := Lib.hid (by
            rw [HST.out, if_neg]
            intro hcn
            rw [List.contains_iff_mem, List.mem_iff_getElem?] at hcn
            obtain ⟨i, hi⟩ := hcn
            have hil := (List.getElem?_eq_some_iff.1 hi).1
            exact HN.out i (by omega) hi)
          clear HST HN
          go_wp2_with (go_at_call 94; refine (buf_byte B b (l ++ escP K E (s.data.toList.take k)) s[k] _ HB.out hsz hlen).mono ?_; rintro e w2 ⟨rfl, hb2, hl2, hk2⟩)
          go_roundg (s.size - (k + 1))
          case measure => omega
          case rel => exact ⟨k + 1, by omega, by go_num, Lib.hid (by rw [HC.out, ← List.append_assoc]; exact hb2), Lib.hid (HP.out.kept hgb hk2), hbel.trans hl2, hkept.trans hk2⟩
    · go_wp2_with (fail)
      rw [Exit.noGoto_normal]
      go_end0
      refine ⟨rfl, ?_, hbel, hkept⟩
      have := HB.out
      rwa [List.take_of_length_le (by simp; omega)] at this
theorem buf_text (B b : Nat) (l : List UInt8) (w : World) (h : Buf B b l w) :
    Calls Tryz.prog 14 #[.pointer (some ⟨b, 0, none⟩)] w fun e w' => e = .returned (.string ⟨l.toArray⟩) ∧ ∃ n, w' = w.drewN n := Tryz.Buffer_String B b l w h
theorem md_zzPairs_Replace (K : List UInt8) (E : UInt8 → List UInt8) (hK : K.length ≤ 1000) (hE : ∀ c ∈ K, (E c).length ≤ 10) (g : Nat) (s : ByteArray) (w : World)
    (hg : PairsIn K E g w) (hs : s.size ≤ 1000000) :
    Calls Tryz.prog 93 #[.slice (some ⟨g, 0, none⟩) (2 * K.length) (2 * K.length), .string s] w fun e w' =>
      e = .returned (.string ⟨(escP K E s.data.toList).toArray⟩) ∧ Below w.heap.size w w' := by
  have hgl : g < w.heap.size := by
    rcases Nat.lt_or_ge g w.heap.size with h | h
    · exact h
    · unfold PairsIn at hg; rw [Array.getElem?_eq_none h] at hg; cases hg
  have hb0 : Buf w.heap.size w.heap.size [] (w.alloc (.cells #[.slice none 0 0, .int .i64 0, .int .i8 0] 53)) := Lib.fresh_isBuffer _ _ w
  have hg1 : PairsIn K E g (w.alloc (.cells #[.slice none 0 0, .int .i64 0, .int .i8 0] 53)) := (Lib.alloc_old w _ g hgl).trans hg
  have HW := md_zzPairs_WriteString K E hK hE w.heap.size w.heap.size g [] s (w.alloc (.cells #[.slice none 0 0, .int .i64 0, .int .i8 0] 53)) hb0 (by simp) hg1 (by omega) (by simp) hs
  rw [List.nil_append] at HW
  have HW := Lib.hid HW
  have hrefl : Below w.heap.size w (w.alloc (.cells #[.slice none 0 0, .int .i64 0, .int .i8 0] 53)) := (Below.refl _ _).alloc (Nat.le_refl _) _
  clear hg hE hb0 hg1
  generalize escP K E s.data.toList = R at *
  go_enter Tryz.func93, Tryz.ntmps93
  go_wp2_with (first
    | (go_at_call 96; refine HW.out.mono ?_; rintro e w1 ⟨rfl, hb1, hl1, hk1⟩)
    | (go_at_call 14; refine (buf_text _ _ R _ hb1).mono ?_; rintro e w2 ⟨rfl, n, rfl⟩))
  go_ret
  exact ⟨rfl, bel_drewP (hrefl.trans hl1) n⟩
end Go.Proofs.YtnocllocnoodnaaGreatDoor
