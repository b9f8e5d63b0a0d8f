/- The package's reading of a backslash escape, its door, and the thin package's word for it. -/
import Derived.Test.YtigeaoijcjidbaaNodePlain
import Derived.Test.YtigeaoijcjidbaaBytes
import Derived.Test.YtigeaoijcjidbaaScan
import Derived.Deep.LoopGhost
import Derived.Deep.DeepCutAuto
import Derived.Deep.Light
namespace Go.Proofs.Ytigeaoijcjidbaa
open Go.RowKit
theorem res_tmp4 {fn : Func} {t u v x : Tmp} (h : fn.results = #[.tmp t, .tmp u, .tmp v, .tmp x]) (tmps : Array Value) (P : Program) (w : World) :
    (results fn tmps).run P w = .ok (.tuple #[tmps.getD t undef, tmps.getD u undef, tmps.getD v undef, tmps.getD x undef]) w := by simp [results, h]
/-- an escaped character was read at i: a block of the call's own holds it -/
def EscMade (B : Nat) (s : ByteArray) (i : Nat) (w : World) (e : Ending) (w' : World) : Prop :=
  ∃ b : Nat, e = .returned (.tuple #[.iface 86 (.pointer (some ⟨b, 0, none⟩)), .int .i64 i, .int .i64 (i + 2), .bool true]) ∧ b < w'.heap.size ∧ w'.cell? ⟨b, 0, none⟩ = some (.string (s.extract (i + 1) (i + 2))) ∧ Below B w w'
/-- a hard break was read at i -/
def HardMade (B : Nat) (s : ByteArray) (i : Nat) (w : World) (e : Ending) (w' : World) : Prop :=
  ∃ (v : Value) (k : Nat), e = .returned (.tuple #[.iface 90 v, .int .i64 i, .int .i64 k, .bool true]) ∧ i + 2 ≤ k ∧ k ≤ s.size ∧ Below B w w'
/-- nothing was read -/
def NoneMade (B : Nat) (w : World) (e : Ending) (w' : World) : Prop :=
  e = .returned (.tuple #[.nilIface, .int .i64 0, .int .i64 0, .bool false]) ∧ Below B w w'
theorem md_parseEscape_punct (p : Value) (s : ByteArray) (i : Nat) (w : World) (hs : s.size ≤ 1000) (hi : i + 1 < s.size) (hp : punctB (s[i + 1].toNat : Int) = true) :
    Calls Try.prog 97 #[p, .string s, .int .i64 i] w (EscMade w.heap.size s i w) := by
  have H := Lib.hid (fun w => md_isPunct (s[i + 1].toNat : Int) w)
  rw [hp] at H
  clear hp
  go_enter Try.func97, Try.ntmps97
  go_wp2_with (go_at_call 85; refine (H.out _).mono ?_; rintro e w' ⟨rfl, rfl⟩)
  refine bodyPost_ret (res_tmp4 rfl _ _ _) rfl ⟨_, rfl, by simp, ?_, (Below.refl _ _).alloc (Nat.le_refl _) _⟩
  rw [World.cell?_alloc_mark]; rfl
theorem md_parseEscape_none (p : Value) (s : ByteArray) (i : Nat) (w : World) (hs : s.size ≤ 1000) (hi : i < s.size) (hp : atB punctB s (i + 1) = false) (hn : atB (fun c => c == 10) s (i + 1) = false) :
    Calls Try.prog 97 #[p, .string s, .int .i64 i] w (NoneMade w.heap.size w) := by
  by_cases hl : i + 1 < s.size
  · rw [atB_of hl] at hp hn
    have H := Lib.hid (fun w => md_isPunct (s[i + 1].toNat : Int) w)
    rw [hp] at H
    clear hp
    go_enter Try.func97, Try.ntmps97
    go_wp2_with (go_at_call 85; refine (H.out _).mono ?_; rintro e w' ⟨rfl, rfl⟩)
    exact bodyPost_ret (res_tmp4 rfl _ _ _) rfl ⟨rfl, Below.refl _ _⟩
  · go_enter Try.func97, Try.ntmps97
    go_wp2_with (fail)
    exact bodyPost_ret (res_tmp4 rfl _ _ _) rfl ⟨rfl, Below.refl _ _⟩
set_option maxHeartbeats 1000000 in
theorem md_parseEscape_hard (B b : Nat) (s : ByteArray) (i : Nat) (w : World) (hB : B ≤ b) (hb : b < w.heap.size) (hc6 : w.cell? ⟨b, 6, none⟩ = some (.bool false)) (hf6 : w.frozen? ⟨b, 6, none⟩ = false)
    (hs : s.size ≤ 1000) (hi : i + 1 < s.size) (hn : (s[i + 1].toNat : Int) = 10) :
    Calls Try.prog 97 #[.pointer (some ⟨b, 0, none⟩), .string s, .int .i64 i] w (HardMade B s i w) := by
  have H := Lib.hid (fun w => md_isPunct (s[i + 1].toNat : Int) w)
  rw [hn] at H
  change Hid (∀ w, Calls _ _ _ _ fun e w' => e = .returned (.bool false) ∧ w = w') at H
  have hn' : (s[i + 1].toNat : Int) = 10 := hn
  have hbel : Below B w w := Below.refl _ _
  have hBw : B ≤ w.heap.size := by omega
  have hcase : ¬ 0 < i ∨ (∃ h : 0 < i ∧ i - 1 < s.size, ((s[i - 1].toNat : Int) == 92) = true) ∨ (∃ h : 0 < i ∧ i - 1 < s.size, ((s[i - 1].toNat : Int) == 92) = false) := by
    by_cases h : 0 < i
    · cases h2 : ((s[i - 1].toNat : Int) == 92) with
      | true => exact .inr (.inl ⟨⟨h, by omega⟩, h2⟩)
      | false => exact .inr (.inr ⟨⟨h, by omega⟩, h2⟩)
    · exact .inl h
  rcases hcase with hi0 | ⟨hi0, hq⟩ | ⟨hi0, hq⟩
  all_goals go_enter Try.func97, Try.ntmps97
  all_goals go_wp2_with (go_at_call 85; refine (H.out _).mono ?_; rintro e w' ⟨rfl, rfl⟩)
  all_goals
    go_loopg [11] (s.size - (i + 2)) (fun g j wx => ∃ k : Nat, i + 2 ≤ k ∧ k + g = s.size ∧ j = .int .i64 k ∧ Below B w wx ∧ B ≤ wx.heap.size)
    case atStart => exact ⟨i + 2, Nat.le_refl _, by omega, by go_num, by first | exact hbel | exact hbel.setCell (p := ⟨b, 6, none⟩) hB _, by first | exact hBw | (rw [World.size_setCell]; exact hBw)⟩
    case round =>
      obtain ⟨k, hk, hkg, rfl, hbl, hBs⟩ := hrel
      by_cases hks : k < s.size
      · go_upto_region 9 with (fail)
        go_cut [67] from 52 to 67 (fun v wx => ∃ c : Bool, v = .bool c ∧ wr = wx)
        case first =>
          go_wp2_with (fail)
          all_goals (go_meet; exact ⟨_, rfl, rfl⟩)
        case rest =>
          obtain ⟨c, rfl, rfl⟩ := hcut
          cases c with
          | true =>
            go_wp2
            go_roundg (gk - 1)
            case measure => omega
            case rel => exact ⟨k + 1, by omega, by omega, by go_num, hbl, hBs⟩
          | false =>
            go_wp2
            exact bodyPost_ret (res_tmp4 rfl _ _ _) rfl ⟨_, k, rfl, hk, by omega, hbl.alloc hBs _⟩
      · go_wp2
        exact bodyPost_ret (res_tmp4 rfl _ _ _) rfl ⟨_, k, rfl, hk, by omega, hbl.alloc hBs _⟩
end Go.Proofs.Ytigeaoijcjidbaa
