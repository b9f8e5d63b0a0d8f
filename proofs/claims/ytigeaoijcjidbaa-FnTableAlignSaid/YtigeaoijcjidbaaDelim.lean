/- The laws' word 'delimiter', and the package's tableAlign. -/
import Derived.Test.YtigeaoijcjidbaaTrims
namespace Go.Proofs.Ytigeaoijcjidbaa
open Go.RowKit
def preL (a : Int) : List UInt8 := if a = 1 ∨ a = 2 then [58] else []
def sufL (a : Int) : List UInt8 := if a = 2 ∨ a = 3 then [58] else []
def delimL (a : Int) (h : Nat) : List UInt8 := preL a ++ List.replicate h 45 ++ sufL a
theorem append_list (a b : ByteArray) : (a ++ b).data.toList = a.data.toList ++ b.data.toList := by simp
theorem mk_eq {s : ByteArray} {l : List UInt8} (h : s.data.toList = l) : s = ⟨l.toArray⟩ := by rw [← h, Lib.mk_data]
theorem laws_delimiter (a : Int) (h : Nat) (w : World) (ha : 0 ≤ a) (ha4 : a < 4) (hh : h ≤ 1000) :
    Calls Try.prog 19 #[.int .i64 a, .int .i64 h] w fun e w' => e = .returned (.string ⟨(delimL a h).toArray⟩) ∧ w = w' := by
  have hc : a = 0 ∨ a = 1 ∨ a = 2 ∨ a = 3 := by omega
  clear ha ha4
  obtain ⟨L, hL⟩ : ∃ L, L = (⟨(delimL a h).toArray⟩ : ByteArray) := ⟨_, rfl⟩
  rw [← hL]
  have HL := Lib.hid hL; clear hL
  obtain ⟨P, hP⟩ : ∃ P, P = preL a := ⟨_, rfl⟩
  have HP := Lib.hid hP; clear hP
  rcases hc with rfl | rfl | rfl | rfl
  all_goals
    go_enter Try.func19, Try.ntmps19
    go_wp2_with (fail)
    go_loopg [5, 13] h (fun g s j wx => ∃ (k : Nat) (t : ByteArray), k + g = h ∧ j = .int .i64 k ∧ s = .string t ∧ t.size ≤ k + 1 ∧ Hid (t.data.toList = P ++ List.replicate k 45) ∧ w = wx)
    case atStart => exact ⟨0, _, by omega, rfl, rfl, by decide, Lib.hid (by rw [HP.out]; decide), rfl⟩
    case round =>
      obtain ⟨k, t, hkg, rfl, rfl, hts, HT, rfl⟩ := hrel
      by_cases hk : k < h
      · go_wp2_with (fail)
        go_roundg (gk - 1)
        case measure => omega
        case rel => exact ⟨k + 1, _, by omega, by go_num, rfl, by rw [ByteArray.size_append]; show t.size + 1 ≤ _; omega, Lib.hid (by rw [append_list, HT.out, List.replicate_succ', ← List.append_assoc]), rfl⟩
      · obtain rfl : k = h := by omega
        go_wp2_with (fail)
        go_ret
        exact ⟨ret_str (by rw [HL.out]; exact mk_eq (by first | exact HT.out.trans (by rw [HP.out]; simp [delimL, sufL]) | (rw [append_list, HT.out, HP.out]; simp [delimL, sufL]))), rfl⟩
/-- the name of an alignment -/
def alignName (l r : Bool) : ByteArray := if l && r then ⟨#[99, 101, 110, 116, 101, 114]⟩ else if l then ⟨#[108, 101, 102, 116]⟩ else if r then ⟨#[114, 105, 103, 104, 116]⟩ else ⟨#[]⟩
theorem md_tableAlign (s x : ByteArray) (l r : Bool) (w : World) (hs : s.size ≤ maxLen) (hx : x = ⟨(stripE tabspB (stripF tabspB s.data.toList)).toArray⟩) (hxs : x.size ≤ 9223372036854775807) (h0 : 0 < x.size)
    (hl : ((x[0].toNat : Int) == 58) = l) (hr : ((x[x.size - 1].toNat : Int) == 58) = r) :
    Calls Try.prog 77 #[.string s] w fun e w' => e = .returned (.string (alignName l r)) ∧ w = w' := by
  have H := Lib.hid (md_tableTrimSpace s w hs)
  rw [← hx] at H
  clear hx hs
  cases l <;> cases r <;>
  · go_enter Try.func77, Try.ntmps77
    go_wp2_with (go_at_call 98; refine H.out.mono ?_; rintro e w' ⟨rfl, rfl⟩)
    go_ret
    exact ⟨rfl, rfl⟩
theorem md_ZZTableAlign (s x : ByteArray) (l r : Bool) (w : World) (hs : s.size ≤ maxLen) (hx : x = ⟨(stripE tabspB (stripF tabspB s.data.toList)).toArray⟩) (hxs : x.size ≤ 9223372036854775807) (h0 : 0 < x.size)
    (hl : ((x[0].toNat : Int) == 58) = l) (hr : ((x[x.size - 1].toNat : Int) == 58) = r) :
    Calls Try.prog 52 #[.string s] w fun e w' => e = .returned (.string (alignName l r)) ∧ w = w' := by
  have H := Lib.hid (md_tableAlign s x l r w hs hx hxs h0 hl hr)
  clear hx hs hl hr
  go_enter Try.func52, Try.ntmps52
  go_wp2_with (go_at_call 77; refine H.out.mono ?_; rintro e w' ⟨rfl, rfl⟩)
  go_ret
  exact ⟨rfl, rfl⟩
theorem impl_TableAlign (s x : ByteArray) (l r : Bool) (w : World) (hs : s.size ≤ maxLen) (hx : x = ⟨(stripE tabspB (stripF tabspB s.data.toList)).toArray⟩) (hxs : x.size ≤ 9223372036854775807) (h0 : 0 < x.size)
    (hl : ((x[0].toNat : Int) == 58) = l) (hr : ((x[x.size - 1].toNat : Int) == 58) = r) :
    Calls Try.prog 18 #[.string s] w fun e w' => e = .returned (.string (alignName l r)) ∧ w = w' := by
  have H := Lib.hid (md_ZZTableAlign s x l r w hs hx hxs h0 hl hr)
  clear hx hs hl hr
  go_enter Try.func18, Try.ntmps18
  go_wp2_with (go_at_call 52; refine H.out.mono ?_; rintro e w' ⟨rfl, rfl⟩)
  go_ret
  exact ⟨rfl, rfl⟩
end Go.Proofs.Ytigeaoijcjidbaa
