/- The package's line: its method string, and its method trimSpace on a text of white space with the end allowed. -/
import Derived.Test.YtigeaoijcjidbaaStripPlain
import Derived.Test.YtigeaoijcjidbaaRows
import Derived.WalkSpells
import Derived.WalkLawsBesides
import Derived.Deep.LoopGhost
import Derived.Deep.DeepCutAuto
import Derived.Deep.QuietTactic
import Derived.BigQuiet
import Derived.Deep.Draws
import Derived.Laws.Rows
import Derived.Laws.BitsAllLaws
import Derived.Laws.BitsLemmas
namespace Go.Proofs.Ytigeaoijcjidbaa
open Go.RowKit

/-- a block is just these cells, none frozen -/
def Blk (w : World) (g : Nat) (t : TypeId) (cs : Array Value) : Prop := w.heap[g]? = some (.cells cs t (0, 0))
section
variable {w w' : World} {g : Nat} {t : TypeId} {cs : Array Value}
theorem Blk.lt (h : Blk w g t cs) : g < w.heap.size := by
  rcases Nat.lt_or_ge g w.heap.size with hlt | hge
  · exact hlt
  · unfold Blk at h; rw [Array.getElem?_eq_none hge] at h; cases h
theorem Blk.cell (h : Blk w g t cs) (i : Nat) : w.cell? ⟨g, i, none⟩ = cs[i]? := cell_of_row w g i cs t (0, 0) h
theorem Blk.frozen (h : Blk w g t cs) (i : Nat) : w.frozen? ⟨g, i, none⟩ = false := by
  unfold Blk at h
  simp [World.frozen?, h]
theorem Blk.new (w : World) (t : TypeId) (cs : Array Value) : Blk (w.alloc (.cells cs t)) w.heap.size t cs := heap_alloc_new w _
theorem Blk.drewN (h : Blk w g t cs) (n : Nat) : Blk (w.drewN n) g t cs := h
theorem Blk.alloc (h : Blk w g t cs) (o : Obj) : Blk (w.alloc o) g t cs := (Below.heap_alloc w o g h.lt).trans h
theorem Blk.set_ (h : Blk w g t cs) (i : Nat) (u : Value) : Blk (w.setCell ⟨g, i, none⟩ u) g t (cs.setIfInBounds i u) := by
  unfold Blk at h ⊢
  simp [World.setCell, Array.getElem?_modify, h]
theorem Blk.far (h : Blk w g t cs) {p : Addr} (hp : g ≠ p.block) (u : Value) : Blk (w.setCell p u) g t cs := (Below.heap_setCell w p u g hp).trans h
theorem Blk.below {B : Nat} (h : Blk w g t cs) (hb : Below B w w') (hg : g < B) : Blk w' g t cs := (hb.block g hg).trans h
end

/-- the cells of a line -/
def lineCells (sp i tab : Int) (s : ByteArray) (nl : Int) : Array Value := #[.int .i64 sp, .int .i64 i, .int .i64 tab, .string s, .int .u8 nl]

set_option maxHeartbeats 1000000 in
theorem line_string (b : Nat) (sp : Int) (i : Nat) (tab : Int) (s : ByteArray) (nl : Int) (w : World) (hb : Blk w b 59 (lineCells sp i tab s nl)) (h0 : 0 ≤ sp) (h3 : sp ≤ 3) (hi : i ≤ s.size) (hs : s.size ≤ 1000) :
    Calls Try.prog 87 #[.pointer (some ⟨b, 0, none⟩)] w fun e w' => ∃ t n, e = .returned (.string t) ∧ w' = w.drewN n := by
  have c0 : w.cell? ⟨b, 0, none⟩ = some (.int .i64 sp) := by rw [hb.cell]; rfl
  have c1 : w.cell? ⟨b, 1, none⟩ = some (.int .i64 i) := by rw [hb.cell]; rfl
  have c3 : w.cell? ⟨b, 3, none⟩ = some (.string s) := by rw [hb.cell]; rfl
  clear hb
  have hc : sp = 0 ∨ sp = 1 ∨ sp = 2 ∨ sp = 3 := by omega
  clear h0 h3
  rcases hc with rfl | rfl | rfl | rfl
  all_goals
    go_enter Try.func87, Try.ntmps87
    go_wp2_with (fail)
    go_quiet (fail)
    go_wp2
    go_ret
    exact ⟨_, _, rfl, rfl⟩
theorem ofInt_i64 (a : Nat) (ha : a < 9223372036854775808) : (BitVec.ofInt 64 (a : Int)).toNat = a := by
  rw [BitVec.ofInt_natCast, BitVec.toNat_ofNat]; exact Nat.mod_eq_of_lt (by omega)
theorem i64_and_nat (a b : Nat) (ha : a < 9223372036854775808) (hb : b < 9223372036854775808) : bits .and .i64 (a : Int) (b : Int) = ((a &&& b : Nat) : Int) := by
  have hx : a &&& b < 2 ^ 63 := Nat.and_lt_two_pow _ (by omega)
  show IntKind.i64.wrap ((BitVec.ofInt 64 (a : Int) &&& BitVec.ofInt 64 (b : Int)).toNat : Int) = _
  rw [BitVec.toNat_and, ofInt_i64 a ha, ofInt_i64 b hb, IntKind.wrap_i64]
  omega
theorem and_three (i tab : Nat) (h : tab ≤ i) (hi : i ≤ 1000) : ∃ x : Int, bits .and .i64 ((i : Int) - (tab : Int)) 3 = x ∧ 0 ≤ x ∧ x ≤ 3 := by
  refine ⟨_, rfl, ?_⟩
  have e : (i : Int) - (tab : Int) = ((i - tab : Nat) : Int) := by omega
  have := i64_and_nat (i - tab) 3 (by omega) (by omega)
  rw [e, show (3 : Int) = ((3 : Nat) : Int) from rfl, this]
  have := Nat.and_le_right (n := i - tab) (m := 3)
  omega
/-- what trimSpace leaves: the line is on, with 0 to 3 spaces, and memory below it is as it was -/
def Trimmed (b : Nat) (s : ByteArray) (nl : Int) (w w' : World) : Prop :=
  ∃ (sp : Int) (i : Nat) (tab : Int), 0 ≤ sp ∧ sp ≤ 3 ∧ i ≤ s.size ∧ Blk w' b 59 (lineCells sp i tab s nl) ∧ Below b w w'
def wsB (c : Int) : Bool := c == 32 || c == 9
set_option maxHeartbeats 1000000 in
theorem line_trimSpace (b : Nat) (s : ByteArray) (nl mn mx : Int) (w : World) (hb : Blk w b 59 (lineCells 0 0 0 s nl)) (hs : s.size ≤ 1000) (ha : allB wsB s.data.toList = true) (h0 : 0 ≤ mn) (h1 : mn ≤ mx) (h2 : mx ≤ 100) :
    Calls Try.prog 86 #[.pointer (some ⟨b, 0, none⟩), .int .i64 mn, .int .i64 mx, .bool true] w fun e w' =>
      e = .returned (.bool true) ∧ Trimmed b s nl w w' := by
  have c0 : w.cell? ⟨b, 0, none⟩ = some (.int .i64 0) := by rw [hb.cell]; rfl
  have c1 : w.cell? ⟨b, 1, none⟩ = some (.int .i64 0) := by rw [hb.cell]; rfl
  have c2 : w.cell? ⟨b, 2, none⟩ = some (.int .i64 0) := by rw [hb.cell]; rfl
  have c3 : w.cell? ⟨b, 3, none⟩ = some (.string s) := by rw [hb.cell]; rfl
  have c4 : w.cell? ⟨b, 4, none⟩ = some (.int .u8 nl) := by rw [hb.cell]; rfl
  have HB := Lib.hid hb; clear hb
  have HA := Lib.hid ha; clear ha
  go_enter Try.func86, Try.ntmps86
  go_wp2_with (fail)
  go_loopg [10] mx.toNat (fun g n wx => ∃ (k : Nat) (sp : Int) (i tab : Nat), (k : Int) + g = mx ∧ n = .int .i64 k ∧ 0 ≤ sp ∧ sp ≤ 3 ∧ i ≤ s.size ∧ tab ≤ i ∧ Blk wx w.heap.size 59 (lineCells sp i tab s nl) ∧ Below w.heap.size w wx)
  case atStart => exact ⟨0, 0, 0, 0, by omega, rfl, by omega, by omega, by omega, by omega, Blk.new _ _ _, (Below.refl _ _).alloc (Nat.le_refl _) _⟩
  case round =>
    obtain ⟨k, sp, i, tab, hkg, rfl, hsp0, hsp3, hi, hti, hT, hbel⟩ := hrel
    have d0 : wr.cell? ⟨w.heap.size, 0, none⟩ = some (.int .i64 sp) := by rw [hT.cell]; rfl
    have d1 : wr.cell? ⟨w.heap.size, 1, none⟩ = some (.int .i64 i) := by rw [hT.cell]; rfl
    have d2 : wr.cell? ⟨w.heap.size, 2, none⟩ = some (.int .i64 tab) := by rw [hT.cell]; rfl
    have d3 : wr.cell? ⟨w.heap.size, 3, none⟩ = some (.string s) := by rw [hT.cell]; rfl
    have d4 : wr.cell? ⟨w.heap.size, 4, none⟩ = some (.int .u8 nl) := by rw [hT.cell]; rfl
    have f0 := hT.frozen 0
    have f1 := hT.frozen 1
    have f2 := hT.frozen 2
    have HT := Lib.hid hT; clear hT
    have hne : b ≠ w.heap.size := fun h => by have := HB.out.lt; omega
    by_cases hk : (k : Int) < mx
    · by_cases hsp : 0 < sp
      · go_wp2_with (fail)
        go_roundg (gk - 1)
        case measure => omega
        case rel => exact ⟨k + 1, sp - 1, i, tab, by omega, by go_num, by omega, by omega, hi, hti, HT.out.set_ 0 _, hbel.setCell (p := ⟨w.heap.size, 0, none⟩) (Nat.le_refl _) _⟩
      · obtain rfl : sp = 0 := by omega
        by_cases hlt : i < s.size
        · have hws := allB_get wsB s HA.out i hlt
          simp only [wsB, Bool.or_eq_true, beq_iff_eq] at hws
          rcases hws with hws | hws
          · go_wp2_with (fail)
            go_roundg (gk - 1)
            case measure => omega
            case rel => exact ⟨k + 1, 0, i + 1, tab, by omega, by go_num, by omega, by omega, by omega, by omega, HT.out.set_ 1 _, hbel.setCell (p := ⟨w.heap.size, 1, none⟩) (Nat.le_refl _) _⟩
          · obtain ⟨x, hx, x0, x3⟩ := and_three i tab hti (by omega)
            go_wp2_with (fail)
            go_roundg (gk - 1)
            case measure => omega
            case rel =>
              exact ⟨k + 1, _, i + 1, i + 1, by omega, by go_num, by omega, by omega, by omega, by omega, ((HT.out.set_ 0 _).set_ 1 _).set_ 2 _, ((hbel.setCell (p := ⟨w.heap.size, 0, none⟩) (Nat.le_refl _) _).setCell (p := ⟨w.heap.size, 1, none⟩) (Nat.le_refl _) _).setCell (p := ⟨w.heap.size, 2, none⟩) (Nat.le_refl _) _⟩
        · have hge : (s.size : Int) ≤ i := by omega
          go_wp2_with (fail)
          go_roundg (gk - 1)
          case measure => omega
          case rel => exact ⟨k + 1, 0, i, tab, by omega, by go_num, by omega, by omega, hi, hti, HT.out, hbel⟩
    · have hbl := HB.out.lt
      have hB := HB.out.below hbel hbl
      have e0 : wr.cell? ⟨b, 0, none⟩ = some (.int .i64 0) := by rw [hB.cell]; rfl
      have e1 : wr.cell? ⟨b, 1, none⟩ = some (.int .i64 0) := by rw [hB.cell]; rfl
      have e2 : wr.cell? ⟨b, 2, none⟩ = some (.int .i64 0) := by rw [hB.cell]; rfl
      have e3 : wr.cell? ⟨b, 3, none⟩ = some (.string s) := by rw [hB.cell]; rfl
      have e4 : wr.cell? ⟨b, 4, none⟩ = some (.int .u8 nl) := by rw [hB.cell]; rfl
      have g0 := hB.frozen 0
      have g1 := hB.frozen 1
      have g2 := hB.frozen 2
      have g3 := hB.frozen 3
      have g4 := hB.frozen 4
      have HB2 := Lib.hid hB; clear hB
      go_wp2_with (fail)
      go_ret
      refine ⟨rfl, sp, i, tab, hsp0, hsp3, hi, ((((HB2.out.set_ 0 _).set_ 1 _).set_ 2 _).set_ 3 _).set_ 4 _, ?_⟩
      exact (((((hbel.mono (Nat.le_of_lt hbl)).setCell (p := ⟨b, 0, none⟩) (Nat.le_refl _) _).setCell (p := ⟨b, 1, none⟩) (Nat.le_refl _) _).setCell (p := ⟨b, 2, none⟩) (Nat.le_refl _) _).setCell (p := ⟨b, 3, none⟩) (Nat.le_refl _) _).setCell (p := ⟨b, 4, none⟩) (Nat.le_refl _) _
end Go.Proofs.Ytigeaoijcjidbaa
