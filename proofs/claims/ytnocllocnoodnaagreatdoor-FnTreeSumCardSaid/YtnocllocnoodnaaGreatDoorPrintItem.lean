/- PrintHTML of items and of lists. -/
import Derived.Test.YtnocllocnoodnaaGreatDoorPrintThree
namespace Go.Proofs.YtnocllocnoodnaaGreatDoor
open Go.RowKit
/-- a block that is a text (of a tight item) may stand anywhere; others at the beginning of a line, and they end with one -/
def preOf (tx : Bool) : List UInt8 → Prop := if tx then Any else NlEnd
/-- the block prints the text; it is the package's *Text, or none -/
def PrintsX (tx : Bool) (T : List UInt8) (lo hi : Nat) (v : Value) (w : World) : Prop :=
  Prints (preOf tx) T lo hi v w ∧ (tx = false → NlT T) ∧ ∀ t x, v = .iface t x → (t = 75 ↔ tx = true)
theorem printsX_sayable (txs : Nat → Bool) (Ts : Nat → List UInt8) : Sayable (fun i => PrintsX (txs i) (Ts i)) where
  keep := fun _ _ _ _ _ _ h hb => ⟨h.1.keep hb, h.2⟩
  wide := fun _ _ _ _ _ _ _ h hl hh => ⟨h.1.wide hl hh, h.2⟩
/-- a slice of such blocks -/
def RowPrintsX (txs : Nat → Bool) (Ts : Nat → List UInt8) (n lo hi : Nat) (s : Value) (w : World) : Prop :=
  ∃ a c vs, s = .slice (some ⟨a, 0, none⟩) n c ∧ vs.length = n ∧ n ≤ 1000 ∧ lo ≤ a ∧ a < hi ∧ RowAt 45 a vs w ∧ ∀ i (h : i < vs.length), PrintsX (txs i) (Ts i) lo hi vs[i] w
/-- the texts of an item's blocks -/
def partT (txs : Nat → Bool) (Ts : Nat → List UInt8) (n i : Nat) : List UInt8 := Ts i ++ if i + 1 < n && txs i then [10] else []
def itemH (txs : Nat → Bool) (Ts : Nat → List UInt8) (n : Nat) : List UInt8 := ([60, 108, 105, 62] ++ if txs 0 then [] else [10]) ++ (sumT (partT txs Ts n) n ++ [60, 47, 108, 105, 62, 10])
theorem item_nl (l : List UInt8) (txs : Nat → Bool) (Ts : Nat → List UInt8) (n : Nat) (h : ∀ i, i < n → txs i = false → NlT (Ts i)) : ∀ k, k < n → preOf (txs k) (l ++ ([60, 108, 105, 62] ++ if txs 0 then [] else [10]) ++ sumT (partT txs Ts n) k) := by
  intro k hk
  unfold preOf
  cases hx : txs k with
  | true => exact trivial
  | false =>
    simp only [Bool.false_eq_true, if_false]
    cases k with
    | zero =>
      rw [hx]
      simp only [sumT, List.append_nil, Bool.false_eq_true, if_false]
      exact nl_app l (show NlT [60, 108, 105, 62, 10] from rfl)
    | succ j =>
      rw [sumT, ← List.append_assoc]
      refine nl_app _ ?_
      unfold partT
      cases hj : txs j with
      | true =>
        simp only [Bool.and_true, hk, decide_true, if_true]
        unfold NlT; rw [List.getLast?_append]; rfl
      | false =>
        simp only [Bool.and_false, Bool.false_eq_true, if_false, List.append_nil]
        exact h j (by omega) hj
set_option maxHeartbeats 8000000 in
set_option maxRecDepth 100000 in
theorem Item_by (txs : Nat → Bool) (Ts : Nat → List UInt8) (n lo hi p : Nat) (m1 m2 m3 s : Value) (w : World) (hp : w.heap[p]? = some (.cells #[m1, m2, s, m3] 133 (0, 0))) (hlo : lo ≤ p) (hhi : p < hi) (hr : RowPrintsX txs Ts n lo hi s w) (h0 : 0 < n) :
    PrintsBy Any 118 ⟨p, 0, none⟩ (itemH txs Ts n) lo hi w := by
  obtain ⟨a, c, vs, rfl, hn, hn1, hal, hah, hrow, hpr⟩ := hr
  intro w' B b l hag hB hBw hb hlen hpre
  have HNL := Lib.hid (item_nl l txs Ts n (fun i hi => (hpr i (by omega)).2.1))
  have d0 : w'.cell? ⟨p, 2, none⟩ = some (.slice (some ⟨a, 0, none⟩) n c) := by rw [Lib.cell_of_heap ((hag p hlo hhi).trans hp)]; rfl
  have HCL : Hid (∀ wx, Below B w' wx → wx.cell? ⟨p, 2, none⟩ = some (.slice (some ⟨a, 0, none⟩) n c)) := Lib.hid (fun wx hx => (hx.cell (p := ⟨p, 2, none⟩) (by show p < B; omega)).trans d0)
  have hrow' := hrow.of (hag a hal hah)
  have HR : Hid (∀ wx, Below B w' wx → ∀ k (h : k < n), wx.cell? ⟨a, k, none⟩ = some (vs[k]'(by omega))) := Lib.hid (fun wx hx k h => (hrow'.of (hx.block a (by omega))).cell k (by omega))
  have HPR : Hid (∀ k (h : k < n) wx L, Below B w' wx → Buf B b L wx → L.length + (Ts k).length ≤ 1000000 → preOf (txs k) L → PrintCall (Ts k) B b L (vs[k]'(by omega)) wx) := Lib.hid (fun k h wx L hx hL hl hq => (hpr k (by omega)).1.call (fun j h1 h2 => (hx.block j (by omega)).trans (hag j h1 h2)) hB (Nat.le_trans hBw hx.size) hL hl hq)
  have HTA : Hid (∀ k (h : k < n), ∃ t x, vs[k]'(by omega) = .iface t (.pointer (some x)) ∧ ∀ w, (Instr.typeAssert (.iface t (.pointer (some x))) 45 75 true).run Tryz.prog w = .ok (.tuple #[.pointer (if txs k then some x else none), .bool (txs k)]) w) := Lib.hid (by
    intro k h
    obtain ⟨t, x, f, hv, _⟩ := (hpr k (by omega)).1
    refine ⟨t, x, hv, fun w => ?_⟩
    have ht := (hpr k (by omega)).2.2 t _ hv
    cases hx : txs k with
    | true =>
      have := ht.2 hx
      subst this
      exact assert_hit (by kernel_rfl) _ _ w
    | false =>
      have : t ≠ 75 := fun e => by rw [hx] at ht; exact absurd (ht.1 e) (by decide)
      exact assert_miss (by kernel_rfl) this (by kernel_rfl) _ _ w)
  have HLN : Hid (∀ k, k ≤ n → (sumT (partT txs Ts n) k).length ≤ (sumT (partT txs Ts n) n).length) := Lib.hid (fun k h => sumT_mono _ h)
  have HBW := Lib.hid hb
  unfold itemH at *
  unfold Wrote
  clear hb hag hp hpre hrow hrow' hpr
  simp only [List.length_append, List.length_cons, List.length_nil] at hlen
  obtain ⟨t0, x0, hv0, ha0⟩ := HTA.out 0 h0
  have r0 := HR.out w' (Below.refl _ _) 0 h0
  go_enter Tryz.func118, Tryz.ntmps118
  cases hx0 : txs 0 with
  | true =>
    rw [hx0] at ha0 hlen HNL
    simp only [if_true, List.length_nil, List.append_nil] at hlen HNL ⊢
    simp only [if_true] at ha0
    go_wp2_with (go_at_call 68; refine (buf_string B b _ _ _ HBW.out hBw (by omega) (by decide)).mono ?_; rintro e w4 ⟨rfl, hb4, hl4, hk4⟩; have d1 := HCL.out _ hl4; have r1 := HR.out _ hl4 0 h0; rw [hv0] at r1; have HB4 := Lib.hid hb4; clear hb4)
    clear d0 d1 r0 r1 hv0 ha0
    go_loopg [37] n (fun gg i wx => ∃ k, k + gg = n ∧ i = .int .i64 (k : Nat) ∧ Hid (Buf B b (l ++ [60, 108, 105, 62] ++ sumT (partT txs Ts n) k) wx) ∧ Below B w' wx ∧ Kept b w' wx)
    case atStart => exact ⟨0, by omega, rfl, Lib.hid (by simpa [sumT] using HB4.out), hl4, hk4⟩
    case round =>
      obtain ⟨k, hk, rfl, HB5, hl5, hk5⟩ := hrel
      by_cases hlt : k < n
      · have hc := HR.out wr hl5 k hlt
        have hlk := HLN.out (k + 1) hlt
        simp only [sumT, List.length_append] at hlk
        have hpl : (Ts k).length ≤ (partT txs Ts n k).length := by unfold partT; rw [List.length_append]; omega
        obtain ⟨t, q, f, hv, hm, hen, hcall⟩ := HPR.out k hlt wr _ hl5 HB5.out (by simp only [List.length_append, List.length_cons, List.length_nil]; omega) (HNL.out k hlt)
        obtain ⟨t2, x2, hv2, ha⟩ := HTA.out k hlt
        have ee := hv.symm.trans hv2
        injection ee with e1 e2
        injection e2 with e3
        injection e3 with e4
        subst e1 e4
        rw [hv] at hc
        have HC := Lib.hid hcall
        clear hcall hv hv2
        unfold Enters at hen
        by_cases hlast : k + 1 < n
        · cases hx : txs k with
          | true =>
            have hpart : partT txs Ts n k = Ts k ++ [10] := by simp [partT, hx, hlast]
            rw [hx] at ha
            simp only [if_true] at ha
            rw [hpart, List.length_append, List.length_cons, List.length_nil] at hlk
            go_wp2_with (first
              | (go_at_call 68; refine (buf_string B b _ _ _ HB6.out (Nat.le_trans hBw hl56.size) (by simp only [List.length_append, List.length_cons, List.length_nil]; omega) (by decide)).mono ?_; rintro e w7 ⟨rfl, hb7, hl7, hk7⟩)
              | ((with_reducible refine HC.out.mono ?_); rintro e w6 ⟨rfl, hb6, hl6, hk6⟩; have HB6 := Lib.hid hb6; have hl56 := hl5.trans hl6; have hk56 := hk5.trans hk6; clear hb6 hl6 hk6; have d6 := HCL.out _ hl56))
            go_roundg (gk - 1)
            case measure => omega
            case rel => exact ⟨k + 1, by omega, by go_num, Lib.hid (by rw [sumT, hpart]; simpa [List.append_assoc] using hb7), hl56.trans hl7, hk56.trans hk7⟩
          | false =>
            have hpart : partT txs Ts n k = Ts k := by simp [partT, hx]
            rw [hx] at ha
            simp only [Bool.false_eq_true, if_false] at ha
            go_wp2_with ((with_reducible refine HC.out.mono ?_); rintro e w6 ⟨rfl, hb6, hl6, hk6⟩; have HB6 := Lib.hid hb6; have hl56 := hl5.trans hl6; have hk56 := hk5.trans hk6; clear hb6 hl6 hk6; have d6 := HCL.out _ hl56)
            go_roundg (gk - 1)
            case measure => omega
            case rel => exact ⟨k + 1, by omega, by go_num, Lib.hid (by rw [sumT, hpart]; simpa [List.append_assoc] using HB6.out), hl56, hk56⟩
        · have hpart : partT txs Ts n k = Ts k := by simp [partT, hlast]
          go_wp2_with ((with_reducible refine HC.out.mono ?_); rintro e w6 ⟨rfl, hb6, hl6, hk6⟩; have HB6 := Lib.hid hb6; have hl56 := hl5.trans hl6; have hk56 := hk5.trans hk6; clear hb6 hl6 hk6; have d6 := HCL.out _ hl56)
          go_roundg (gk - 1)
          case measure => omega
          case rel => exact ⟨k + 1, by omega, by go_num, Lib.hid (by rw [sumT, hpart]; simpa [List.append_assoc] using HB6.out), hl56, hk56⟩
      · have hkn : k = n := by omega
        subst hkn
        go_wp2_with (go_at_call 68; refine (buf_string B b _ _ _ HB5.out (Nat.le_trans hBw hl5.size) (by simp only [List.length_append, List.length_cons, List.length_nil]; omega) (by decide)).mono ?_; rintro e w7 ⟨rfl, hb7, hl7, hk7⟩)
        go_end0
        exact ⟨rfl, by simpa [List.append_assoc] using hb7, hl5.trans hl7, hk5.trans hk7⟩
  | false =>
    rw [hx0] at ha0 hlen HNL
    simp only [Bool.false_eq_true, if_false, List.length_cons, List.length_nil, List.cons_append, List.nil_append] at hlen HNL ⊢
    simp only [Bool.false_eq_true, if_false] at ha0
    go_wp2_with (first
      | (go_at_call 68; refine (buf_string B b _ _ _ HB4.out (Nat.le_trans hBw hl4.size) (by simp only [List.length_append, List.length_cons, List.length_nil]; omega) (by decide)).mono ?_; rintro e w5 ⟨rfl, hb5, hl5, hk5⟩; have hl45 := hl4.trans hl5; have hk45 := hk4.trans hk5; have d2 := HCL.out _ hl45; have HB45 := Lib.hid hb5; clear hb5 hl5 hk5)
      | (go_at_call 68; refine (buf_string B b _ _ _ HBW.out hBw (by omega) (by decide)).mono ?_; rintro e w4 ⟨rfl, hb4, hl4, hk4⟩; have d1 := HCL.out _ hl4; have r1 := HR.out _ hl4 0 h0; rw [hv0] at r1; have HB4 := Lib.hid hb4; clear hb4))
    clear d0 d1 d2 r0 r1 hv0 ha0
    go_loopg [37] n (fun gg i wx => ∃ k, k + gg = n ∧ i = .int .i64 (k : Nat) ∧ Hid (Buf B b (l ++ [60, 108, 105, 62, 10] ++ sumT (partT txs Ts n) k) wx) ∧ Below B w' wx ∧ Kept b w' wx)
    case atStart => exact ⟨0, by omega, rfl, Lib.hid (by simpa [sumT] using HB45.out), hl45, hk45⟩
    case round =>
      obtain ⟨k, hk, rfl, HB5, hl5, hk5⟩ := hrel
      by_cases hlt : k < n
      · have hc := HR.out wr hl5 k hlt
        have hlk := HLN.out (k + 1) hlt
        simp only [sumT, List.length_append] at hlk
        have hpl : (Ts k).length ≤ (partT txs Ts n k).length := by unfold partT; rw [List.length_append]; omega
        obtain ⟨t, q, f, hv, hm, hen, hcall⟩ := HPR.out k hlt wr _ hl5 HB5.out (by simp only [List.length_append, List.length_cons, List.length_nil]; omega) (HNL.out k hlt)
        obtain ⟨t2, x2, hv2, ha⟩ := HTA.out k hlt
        have ee := hv.symm.trans hv2
        injection ee with e1 e2
        injection e2 with e3
        injection e3 with e4
        subst e1 e4
        rw [hv] at hc
        have HC := Lib.hid hcall
        clear hcall hv hv2
        unfold Enters at hen
        by_cases hlast : k + 1 < n
        · cases hx : txs k with
          | true =>
            have hpart : partT txs Ts n k = Ts k ++ [10] := by simp [partT, hx, hlast]
            rw [hx] at ha
            simp only [if_true] at ha
            rw [hpart, List.length_append, List.length_cons, List.length_nil] at hlk
            go_wp2_with (first
              | (go_at_call 68; refine (buf_string B b _ _ _ HB6.out (Nat.le_trans hBw hl56.size) (by simp only [List.length_append, List.length_cons, List.length_nil]; omega) (by decide)).mono ?_; rintro e w7 ⟨rfl, hb7, hl7, hk7⟩)
              | ((with_reducible refine HC.out.mono ?_); rintro e w6 ⟨rfl, hb6, hl6, hk6⟩; have HB6 := Lib.hid hb6; have hl56 := hl5.trans hl6; have hk56 := hk5.trans hk6; clear hb6 hl6 hk6; have d6 := HCL.out _ hl56))
            go_roundg (gk - 1)
            case measure => omega
            case rel => exact ⟨k + 1, by omega, by go_num, Lib.hid (by rw [sumT, hpart]; simpa [List.append_assoc] using hb7), hl56.trans hl7, hk56.trans hk7⟩
          | false =>
            have hpart : partT txs Ts n k = Ts k := by simp [partT, hx]
            rw [hx] at ha
            simp only [Bool.false_eq_true, if_false] at ha
            go_wp2_with ((with_reducible refine HC.out.mono ?_); rintro e w6 ⟨rfl, hb6, hl6, hk6⟩; have HB6 := Lib.hid hb6; have hl56 := hl5.trans hl6; have hk56 := hk5.trans hk6; clear hb6 hl6 hk6; have d6 := HCL.out _ hl56)
            go_roundg (gk - 1)
            case measure => omega
            case rel => exact ⟨k + 1, by omega, by go_num, Lib.hid (by rw [sumT, hpart]; simpa [List.append_assoc] using HB6.out), hl56, hk56⟩
        · have hpart : partT txs Ts n k = Ts k := by simp [partT, hlast]
          go_wp2_with ((with_reducible refine HC.out.mono ?_); rintro e w6 ⟨rfl, hb6, hl6, hk6⟩; have HB6 := Lib.hid hb6; have hl56 := hl5.trans hl6; have hk56 := hk5.trans hk6; clear hb6 hl6 hk6; have d6 := HCL.out _ hl56)
          go_roundg (gk - 1)
          case measure => omega
          case rel => exact ⟨k + 1, by omega, by go_num, Lib.hid (by rw [sumT, hpart]; simpa [List.append_assoc] using HB6.out), hl56, hk56⟩
      · have hkn : k = n := by omega
        subst hkn
        go_wp2_with (go_at_call 68; refine (buf_string B b _ _ _ HB5.out (Nat.le_trans hBw hl5.size) (by simp only [List.length_append, List.length_cons, List.length_nil]; omega) (by decide)).mono ?_; rintro e w7 ⟨rfl, hb7, hl7, hk7⟩)
        go_end0
        exact ⟨rfl, by simpa [List.append_assoc] using hb7, hl5.trans hl7, hk5.trans hk7⟩
theorem Item_prints {pre : List UInt8 → Prop} {p : Addr} {T : List UInt8} {lo hi : Nat} {w : World} (h : PrintsBy pre 118 p T lo hi w) : Prints pre T lo hi (.iface 131 (.pointer (some p))) w :=
  ⟨_, _, _, rfl, fun w' => by kernel_rfl, enters_of Tryz.func118 (by kernel_rfl) (by kernel_rfl), h⟩
end Go.Proofs.YtnocllocnoodnaaGreatDoor
