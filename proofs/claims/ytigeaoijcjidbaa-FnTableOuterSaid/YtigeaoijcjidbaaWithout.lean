/- The laws' word 'withoutByte': some text; memory below is left as it was. -/
import Derived.Test.YtigeaoijcjidbaaOnly
import Derived.Lib.BufferRead
import Derived.Laws.AppendOwn
import Derived.OwnWalk
namespace Go.Proofs.Ytigeaoijcjidbaa
open Go.RowKit

theorem u8_info : (Try.prog.info? 5).map (fun i => (i.zero, i.size, i.bytes)) = some (some (.int .u8 0), 1, 1) := by kernel_rfl
/-- the cells of bytes -/
def cellsOf (l : List UInt8) : List Value := l.map fun c => .int .u8 (c.toNat : Int)
theorem own_string {w : World} {B : Nat} {v : Value} {l : List UInt8} (h : w.ownsRow B 5 1 v l.length (cellsOf l)) :
    (convert 48 9 v).run Try.prog w = .ok (.string ⟨l.toArray⟩) w := by
  rcases h.2 with ⟨rfl, h0⟩ | ⟨g, cap, cur, rfl, _, hg, _, _, _, htk⟩
  · obtain rfl : l = [] := List.eq_nil_of_length_eq_zero h0
    exact Lib.run_convert_nil_bytes w _ _ _ _ Try.underlying48 Try.underlying5 Try.underlying9
  · refine run_convert_bytes_back w _ _ _ _ cap l Try.underlying48 Try.underlying5 Try.underlying9 (Lib.bytes_of_row hg ?_)
    rw [Nat.mul_one] at htk
    exact htk
theorem cellsOf_one (l : List UInt8) : ∀ u ∈ cellsOf l, u.oneCell' = true := by
  intro u hu; simp only [cellsOf, List.mem_map] at hu; obtain ⟨c, _, rfl⟩ := hu; rfl
theorem own_snoc {w : World} {B : Nat} {v : Value} {l : List UInt8} {c : UInt8} (h : w.ownsRow B 5 1 v (l.length + 1) (cellsOf l ++ [.int .u8 (c.toNat : Int)])) :
    w.ownsRow B 5 1 v (l ++ [c]).length (cellsOf (l ++ [c])) := by
  rw [List.length_append, List.length_singleton, cellsOf, List.map_append]; exact h
set_option maxHeartbeats 1000000 in
set_option maxRecDepth 100000 in
theorem laws_withoutByte (c : Int) (w : World) : Calls Try.prog 22 #[.int .u8 c] w fun e w' => ∃ t : ByteArray, e = .returned (.string t) ∧ Below w.heap.size w w' := by
  obtain ⟨i0, hi0, hz0, hz1, hz2⟩ := info_parts u8_info
  go_enter Try.func22, Try.ntmps22
  go_wp2_with (fail)
  go_loopg [3, 4] 95 (fun g v b wx => ∃ (k : Nat) (l : List UInt8), k + g = 127 ∧ 32 ≤ k ∧ l.length ≤ k ∧ b = .int .u8 k ∧ wx.ownsRow w.heap.size 5 1 v l.length (cellsOf l) ∧ Below w.heap.size w wx)
  case atStart => exact ⟨32, [], rfl, Nat.le_refl _, by simp, rfl, World.ownsRow_made w #[] 0 (Nat.le_refl _) (by simp [maxLen]) (by simp), (Below.refl _ _).alloc (Nat.le_refl _) _⟩
  case round =>
    obtain ⟨k, l, hkg, hk, hl, rfl, hown, hbel⟩ := hrel
    by_cases hle : k ≤ 126
    · by_cases hc : (k : Int) = c
      · have hb : ((k : Int) != c) = false := by simp [hc]
        have hb2 := hc.symm
        subst hb2
        go_wp2_with (fail)
        go_roundg (gk - 1)
        case measure => omega
        case rel => exact ⟨k + 1, l, by omega, by omega, by omega, by go_num, hown, hbel⟩
      · have hb : ((k : Int) != c) = true := by simpa using hc
        have hu : ((UInt8.ofNat k).toNat : Int) = k := by simp; omega
        have HU := Lib.hid hu; clear hu
        go_wp2_with (at_builtin; refine wpList_append_own _ rfl _ _ 48 rfl w.heap.size 5 i0 (.int .u8 0) 1 1 Try.underlying48 hi0 hz0 hz1 hz2 rfl (by decide) _ _ _ rfl (hown.alloc _) ⟨wr.heap.size, 0, none⟩ 1 1 [.int .u8 (k : Int)] rfl rfl ?c1 ?c2 ?c3 ?c4 ?c5 ?_)
        case c1 =>
          intro j u hj
          match j, hj with
          | 0, hj => simp at hj; subst hj; simp [Addr.add]
        case c2 => intro u hu; simp at hu; subst hu; rfl
        case c3 => unfold maxLen; omega
        case c4 => omega
        case c5 => have := hbel.size; simp; omega
        intro v' w1 hown' hgrow _
        have hn : w1.ownsRow w.heap.size 5 1 v' (l ++ [UInt8.ofNat k]).length (cellsOf (l ++ [UInt8.ofNat k])) := own_snoc (by rw [HU.out]; exact hown')
        have hb1 : Below w.heap.size w w1 := (hbel.alloc hbel.size _).grown hgrow (by have := hbel.size; simp; omega) (fun j hj => (hown.lt j hj).1)
        clear hown' hgrow hown hbel
        go_wp2_with (fail)
        go_roundg (gk - 1)
        case measure => omega
        case rel => exact ⟨k + 1, l ++ [UInt8.ofNat k], by omega, by omega, by simp; omega, by go_num, hn, hb1⟩
    · have hcv := own_string hown
      clear hown
      go_wp2_with (fail)
      go_ret
      exact ⟨_, rfl, hbel⟩
end Go.Proofs.Ytigeaoijcjidbaa
