/- The builder's small words: times, Pad, decimal, joined, next. -/
import Derived.Test.YtnocllocnoodnaaGreatDoorNodeMade
import Derived.Deep.LoopGhost
import Derived.Deep.QuietTactic
import Derived.BigQuiet
namespace Go.Proofs.YtnocllocnoodnaaGreatDoor
open Go.RowKit
/-- the call tells a text of so many bytes at most, and leaves memory as it was -/
def SizeTold (L : Nat) (w : World) (e : Ending) (w' : World) : Prop := ∃ r : ByteArray, r.size ≤ L ∧ e = .returned (.string r) ∧ w = w'
theorem laws_times (s : ByteArray) (n : Nat) (w : World) (hs : s.size ≤ 100) (hn : n ≤ 100) : Calls Tryz.prog 25 #[.string s, .int .i64 n] w (SizeTold (s.size * n) w) := by
  unfold SizeTold
  go_enter Tryz.func25, Tryz.ntmps25
  go_wp2
  go_loopg [5, 7] n (fun gg o i wx => ∃ (k : Nat) (r : ByteArray), k + gg = n ∧ o = .string r ∧ i = .int .i64 k ∧ r.size = s.size * k ∧ w = wx)
  case atStart => exact ⟨0, ⟨#[]⟩, by omega, rfl, rfl, rfl, rfl⟩
  case round =>
    obtain ⟨k, r, hk, rfl, rfl, hr, rfl⟩ := hrel
    by_cases hlt : k < n
    · have hle : s.size * k ≤ 100 * 100 := Nat.mul_le_mul hs (by omega)
      go_wp2
      go_roundg (gk - 1)
      case measure => omega
      case rel => exact ⟨k + 1, r ++ s, by omega, rfl, by go_num, by rw [ByteArray.size_append, hr, Nat.mul_succ], rfl⟩
    · have hkn : k = n := by omega
      subst hkn
      go_wp2
      go_ret
      exact ⟨r, Nat.le_of_eq hr, rfl, rfl⟩
theorem laws_Pad (n : Nat) (w : World) (hn : n ≤ 100) : Calls Tryz.prog 37 #[.int .i64 n] w (SizeTold n w) := by
  have H := Lib.hid (laws_times ⟨#[32]⟩ n w (by decide) hn)
  unfold SizeTold at *
  go_enter Tryz.func37, Tryz.ntmps37
  go_wp2_with (go_at_call 25; refine H.out.mono ?_; rintro e w2 ⟨r, hr, rfl, rfl⟩)
  go_ret
  exact ⟨r, by have : (⟨#[32]⟩ : ByteArray).size = 1 := rfl; rw [this] at hr; omega, rfl, rfl⟩
theorem laws_decimal_one (n : Nat) (w : World) (hn : n < 10) : Calls Tryz.prog 38 #[.int .i64 n] w (SizeTold 1 w) := by
  unfold SizeTold
  go_enter Tryz.func38, Tryz.ntmps38
  go_wp2
  go_ret
  exact ⟨_, by rw [ByteArray.size_extract]; omega, rfl, rfl⟩
/-- an own slice of texts -/
def StrRow (n L : Nat) (lo hi : Nat) (v : Value) (w : World) : Prop := ∃ (a c : Nat) (ss : List ByteArray), v = .slice (some ⟨a, 0, none⟩) n c ∧ ss.length = n ∧ lo ≤ a ∧ a < hi ∧ RowAt 9 a (ss.map Value.string) w ∧ ∀ s ∈ ss, s.size ≤ L
theorem laws_decimal (n : Nat) (w : World) (hn : n < 100) : Calls Tryz.prog 38 #[.int .i64 n] w (SizeTold 2 w) := by
  by_cases h : n < 10
  · refine (laws_decimal_one n w h).mono ?_
    rintro e w' ⟨r, hr, h1, h2⟩
    exact ⟨r, by omega, h1, h2⟩
  · have H : Hid (∀ (j : Int) (w : World), 0 ≤ j → j < 10 → Calls Tryz.prog 38 #[.int .i64 j] w (SizeTold 1 w)) := Lib.hid (fun j w h0 h1 => by
      obtain ⟨k, rfl⟩ := Int.eq_ofNat_of_zero_le h0
      exact laws_decimal_one k w (by omega))
    unfold SizeTold at *
    go_enter Tryz.func38, Tryz.ntmps38
    go_wp2_with (go_at_call 38; refine (H.out _ _ (by omega) (by omega)).mono ?_; rintro e w2 ⟨r, hr, rfl, rfl⟩)
    go_ret
    exact ⟨_, by rw [ByteArray.size_append]; omega, rfl, rfl⟩
theorem laws_joined (n L a c : Nat) (ss : List ByteArray) (bt : ByteArray) (w : World) (hl : ss.length = n) (hrow : RowAt 9 a (ss.map Value.string) w) (hss : ∀ s ∈ ss, s.size ≤ L) (hL : L ≤ 100000) (hn : n ≤ 100000) (hb : bt.size ≤ 10) :
    Calls Tryz.prog 9 #[.slice (some ⟨a, 0, none⟩) n c, .string bt] w (SizeTold (n * (L + 10)) w) := by
  have HR := Lib.hid (fun k (h : k < n) => (show w.cell? ⟨a, k, none⟩ = some (.string (ss[k]'(by omega))) by have := hrow.cell k (by simp; omega); simpa using this))
  have HS := Lib.hid (fun k (h : k < n) => hss (ss[k]'(by omega)) (List.getElem_mem _))
  clear hrow hss
  unfold SizeTold
  go_enter Tryz.func9, Tryz.ntmps9
  go_wp2
  go_loopg [5, 10] n (fun gg o i wx => ∃ (k : Nat) (r : ByteArray), k + gg = n ∧ o = .string r ∧ i = .int .i64 k ∧ r.size ≤ k * (L + 10) ∧ w = wx)
  case atStart => exact ⟨0, ⟨#[]⟩, by omega, rfl, rfl, Nat.zero_le _, rfl⟩
  case round =>
    obtain ⟨k, r, hk, rfl, rfl, hr, rfl⟩ := hrel
    by_cases hlt : k < n
    · have hc := HR.out k hlt
      have hs := HS.out k hlt
      generalize ss[k]'(by omega) = sk at *
      have hle : k * (L + 10) ≤ 100000 * 100010 := Nat.mul_le_mul (by omega) (by omega)
      have hsucc : (k + 1) * (L + 10) = k * (L + 10) + (L + 10) := Nat.succ_mul _ _
      by_cases h0 : k = 0
      · subst h0
        go_wp2
        go_roundg (gk - 1)
        case measure => omega
        case rel => exact ⟨1, r ++ sk, by omega, rfl, by go_num, by rw [ByteArray.size_append]; omega, rfl⟩
      · go_wp2
        go_roundg (gk - 1)
        case measure => omega
        case rel => exact ⟨k + 1, r ++ bt ++ sk, by omega, rfl, by go_num, by rw [ByteArray.size_append, ByteArray.size_append]; omega, rfl⟩
    · have hkn : k = n := by omega
      subst hkn
      go_wp2
      go_ret
      exact ⟨r, hr, rfl, rfl⟩
theorem add_block (ad : Addr) (k : Nat) : (ad.add k).block = ad.block := by
  unfold Addr.add
  split <;> rfl
/-- the slice of bytes that is read -/
def BytesIn (b n : Nat) (v : Value) (w : World) : Prop := ∃ ao c, v = .slice ao n c ∧ n ≤ 300 ∧ ∀ k, k < n → ∃ (ad : Addr) (x : Nat), ao = some ad ∧ x < 256 ∧ ad.block < b ∧ w.cell? (ad.add k) = some (.int .u8 x)
/-- a builder lies in block b -/
def Bld (b n : Nat) (w : World) : Prop := ∃ (v : Value) (t : Nat) (sz dp : Int), w.heap[b]? = some (.cells #[v, .int .i64 t, .int .i64 sz, .bool false, .int .i64 dp] 38 (0, 0)) ∧ t ≤ n ∧ BytesIn b n v w
/-- the call tells a number below m; of memory the builder alone has changed -/
def NextMade (b n m : Nat) (w : World) (e : Ending) (w' : World) : Prop := ∃ k : Nat, k < m ∧ e = .returned (.int .i64 k) ∧ Bld b n w' ∧ w.grownBy w' (some b)
set_option maxHeartbeats 4000000 in
theorem builder_next (b n m : Nat) (w : World) (h : Bld b n w) (hm : 0 < m) (hm2 : m ≤ 100) : Calls Tryz.prog 12 #[.pointer (some ⟨b, 0, none⟩), .int .i64 m] w (NextMade b n m w) := by
  obtain ⟨v, t, sz, dp, hb, ht, ao, c, rfl, hn, hbs⟩ := h
  have c0 : w.cell? ⟨b, 0, none⟩ = some (.slice ao n c) := by rw [Lib.cell_of_heap hb]; rfl
  have c1 : w.cell? ⟨b, 1, none⟩ = some (.int .i64 t) := by rw [Lib.cell_of_heap hb]; rfl
  have hf : ∀ j, w.frozen? ⟨b, j, none⟩ = false := fun j => Lib.frozen_of_heap hb j
  have HB := Lib.hid hb
  have HBS := Lib.hid hbs
  clear hb hbs
  unfold NextMade
  by_cases hlt : t < n
  · obtain ⟨ad, x, rfl, hx, hne, hcx⟩ := HBS.out t hlt
    go_enter Tryz.func12, Tryz.ntmps12
    go_wp2
    go_quiet (fail)
    go_wp2
    generalize hW : World.setCell _ _ _ = W1
    have hb1 : W1.heap[b]? = some (.cells #[.slice (some ad) n c, .int .i64 ((t : Int) + 1), .int .i64 sz, .bool false, .int .i64 dp] 38 (0, 0)) := by
      rw [← hW]
      have := heap_setCell_same (w.drewN nq) b 1 _ _ (.int .i64 ((t : Int) + 1)) HB.out
      simpa using this
    have hot : ∀ j, j ≠ b → W1.heap[j]? = w.heap[j]? := fun j hj => by rw [← hW]; exact heap_setCell_other (w.drewN nq) ⟨b, 1, none⟩ j _ hj
    have hrest : W1.os = w.os ∧ W1.tape = w.tape ∧ W1.output = w.output ∧ W1.heap.size = w.heap.size := by rw [← hW]; exact ⟨rfl, rfl, rfl, by simp⟩
    have c0' : W1.cell? ⟨b, 0, none⟩ = some (.slice (some ad) n c) := by rw [Lib.cell_of_heap hb1]; rfl
    have c1' : W1.cell? ⟨b, 1, none⟩ = some (.int .i64 ((t : Int) + 1)) := by rw [Lib.cell_of_heap hb1]; rfl
    have cx : W1.cell? (ad.add t) = some (.int .u8 x) := (World.cell?_of_block (a := ad.add t) (hot _ (by rw [add_block]; exact Nat.ne_of_lt hne))).trans hcx
    clear hW hcx c0 c1
    go_quiet (fail)
    go_wp2
    go_ret
    refine ⟨x % m, Nat.mod_lt _ hm, by simp, ⟨.slice (some ad) n c, t + 1, sz, dp, hb1, hlt, some ad, c, rfl, hn, ?_⟩, hrest.1, hrest.2.1, hrest.2.2.1, Nat.le_of_eq hrest.2.2.2.symm, ?_⟩
    · intro k hk
      obtain ⟨ad', y, h1, h2, h3, h4⟩ := HBS.out k hk
      exact ⟨ad', y, h1, h2, h3, (World.cell?_of_block (a := ad'.add k) (hot _ (by rw [add_block]; exact Nat.ne_of_lt h3))).trans h4⟩
    · intro k _ hk
      exact hot k (fun e => hk (congrArg some e))
  · go_enter Tryz.func12, Tryz.ntmps12
    go_wp2
    go_quiet (fail)
    go_wp2
    go_ret
    exact ⟨0, hm, rfl, ⟨.slice ao n c, t, sz, dp, HB.out, ht, ao, c, rfl, hn, HBS.out⟩, rfl, rfl, rfl, Nat.le_refl _, fun _ _ _ => rfl⟩
end Go.Proofs.YtnocllocnoodnaaGreatDoor
