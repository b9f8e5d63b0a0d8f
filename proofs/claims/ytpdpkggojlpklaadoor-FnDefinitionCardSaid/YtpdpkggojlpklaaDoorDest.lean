/- The package's reading of a plain destination, up to a space. -/
import Derived.Test.YtpdpkggojlpklaaDoorUnesc
import Derived.Test.YtpdpkggojlpklaaDoorTitlePlain
import Derived.Deep.LoopGhost
import Derived.WalkMore
namespace Go.Proofs.YtpdpkggojlpklaaDoor
open Go.RowKit
/-- a byte of a plain destination -/
def destB (c : Int) : Bool := !(c == 40 || c == 41 || c == 92 || c == 32 || c == 9 || c == 10 || c == 60 || c == 38)
theorem arr_list (x : ByteArray) : (⟨x.data.toList.toArray⟩ : ByteArray) = x := by apply ByteArray.ext; simp
set_option maxHeartbeats 2000000 in
theorem md_parseLinkDest (s : ByteArray) (i j : Nat) (w : World) (hs : s.size ≤ 1000) (hij : i < j) (hj : j < s.size) (hd : ∀ k (h : k < s.size), i ≤ k → k < j → destB (s[k].toNat : Int) = true) (he : (s[j].toNat : Int) = 32) (ht : TableAt w) (h0 : 4 < w.heap.size) :
    Calls Tryd.prog 31 #[.string s, .int .i64 i] w fun e w' => e = .returned (.tuple #[.string (s.extract i j), .int .i64 j, .bool true]) ∧ Below w.heap.size w w' := by
  have hi : i < s.size := by omega
  have hmem : ∀ c ∈ (s.extract i j).data.toList, destB (c.toNat : Int) = true := by
    intro c hc
    rw [Lib.extract_data, List.mem_iff_getElem?] at hc
    obtain ⟨n, hn⟩ := hc
    rw [List.getElem?_take] at hn
    split at hn
    · rename_i hlt
      rw [List.getElem?_drop, List.getElem?_eq_getElem (by simp; omega)] at hn
      have := hd (i + n) (by omega) (by omega) (by omega)
      injection hn with hn
      rw [← hn]; exact this
    · cases hn
  have HU := md_mdUnescape (s.extract i j) w (by rw [ByteArray.size_extract]; omega) ht h0
  rw [rp_plain _ (fun h => by have := hmem _ h; cases this) (fun h => by have := hmem _ h; cases this)] at HU
  rw [arr_list] at HU
  have HU := Lib.hid HU
  have HD : Hid (∀ k (h : k < s.size), i ≤ k → k < j → ((s[k].toNat : Int) == 40) = false ∧ ((s[k].toNat : Int) == 41) = false ∧ ((s[k].toNat : Int) == 92) = false ∧ ((s[k].toNat : Int) == 32) = false ∧ ((s[k].toNat : Int) == 9) = false ∧ ((s[k].toNat : Int) == 10) = false ∧ ((s[k].toNat : Int) == 60) = false) := Lib.hid (by
    intro k h h1 h2
    have := hd k h h1 h2
    simp only [destB, Bool.not_eq_true', Bool.or_eq_false_iff] at this
    exact ⟨this.1.1.1.1.1.1.1, this.1.1.1.1.1.1.2, this.1.1.1.1.1.2, this.1.1.1.1.2, this.1.1.1.2, this.1.1.2, this.1.2⟩)
  obtain ⟨_, _, _, _, _, _, z60⟩ := HD.out i hi (by omega) hij
  have f1 : ((s[j].toNat : Int) == 40) = false := by rw [he]; rfl
  have f2 : ((s[j].toNat : Int) == 41) = false := by rw [he]; rfl
  have f3 : ((s[j].toNat : Int) == 92) = false := by rw [he]; rfl
  have f4 : ((s[j].toNat : Int) == 32) = true := by rw [he]; rfl
  clear hd hmem he ht
  go_enter Tryd.func31, Tryd.ntmps31
  go_wp2
  go_step3
  go_wp2
  go_step3
  go_wp2
  go_loopg [8, 9] (j - i) (fun g dp jj wx => ∃ k : Nat, i ≤ k ∧ k + g = j ∧ dp = .int .i64 0 ∧ jj = .int .i64 k ∧ w = wx)
  case atStart => exact ⟨i, by omega, by omega, rfl, rfl, rfl⟩
  case round =>
    obtain ⟨k, hk, hkg, rfl, rfl, rfl⟩ := hrel
    have hks : k < s.size := by omega
    by_cases hkj : k < j
    · obtain ⟨g1, g2, g3, g4, g5, g6, _⟩ := HD.out k hks hk hkj
      go_wp2_with (fail)
      go_roundg (j - (k + 1))
      case measure => omega
      case rel => exact ⟨k + 1, by omega, by omega, rfl, by go_num, rfl⟩
    · obtain rfl : k = j := by omega
      go_wp2_with (go_at_call 37; refine HU.out.mono ?_; rintro e w2 ⟨rfl, hb⟩)
      rw [Exit.noGoto_ret]
      go_ret3
      exact ⟨rfl, hb⟩
end Go.Proofs.YtpdpkggojlpklaaDoor
