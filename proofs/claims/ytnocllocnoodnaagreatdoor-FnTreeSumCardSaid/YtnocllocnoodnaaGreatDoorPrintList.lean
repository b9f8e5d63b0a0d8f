/- PrintHTML of lists (printed by wip/tools/mklist.py). -/
import Derived.Test.YtnocllocnoodnaaGreatDoorPrintItem
namespace Go.Proofs.YtnocllocnoodnaaGreatDoor
open Go.RowKit
/-- what stands ahead of a list's items, and behind them -/
def listO (o : Bool) (i : Nat) : List UInt8 := if o then (if i = 1 then [60, 111, 108, 62, 10] else [60, 111, 108, 32, 115, 116, 97, 114, 116, 61, 34] ++ Lib.decDigits i ++ [34, 62, 10]) else [60, 117, 108, 62, 10]
def listC (o : Bool) : List UInt8 := if o then [60, 47, 111, 108, 62, 10] else [60, 47, 117, 108, 62, 10]
def listH (o : Bool) (i : Nat) (S : List UInt8) : List UInt8 := listO o i ++ (S ++ listC o)
theorem listH_nl (o : Bool) (i : Nat) (S : List UInt8) : NlT (listH o i S) := by
  unfold listH NlT listC
  rw [← List.append_assoc, List.getLast?_append]
  cases o <;> rfl
set_option maxHeartbeats 4000000 in
set_option maxRecDepth 100000 in
theorem List_dot_one (Ts : Nat → List UInt8) (n lo hi p : Nat) (m1 m2 m3 s : Value) (w : World) (hp : w.heap[p]? = some (.cells #[m1, m2, .int .i32 46, (.int .i64 1), m3, s] 71 (0, 0))) (hlo : lo ≤ p) (hhi : p < hi) (hr : RowPrints Any 45 Ts n lo hi s w) :
    PrintsBy Any 74 ⟨p, 0, none⟩ (([60, 111, 108] ++ [62, 10]) ++ (sumT Ts n ++ [60, 47, 111, 108, 62, 10])) lo hi w := by
  obtain ⟨a, c, vs, rfl, hn, hn1, hal, hah, hrow, hpr⟩ := hr
  intro w' B b l hag hB hBw hb hlen hpre
  have hcell := fun j => Lib.cell_of_heap ((hag p hlo hhi).trans hp) j
  have HCL : Hid (∀ wx, Below B w' wx → wx.cell? ⟨p, 2, none⟩ = some (.int .i32 46) ∧ wx.cell? ⟨p, 3, none⟩ = some (.int .i64 1) ∧ wx.cell? ⟨p, 5, none⟩ = some (.slice (some ⟨a, 0, none⟩) n c)) := Lib.hid (fun wx hx => ⟨(hx.cell (p := ⟨p, 2, none⟩) (by show p < B; omega)).trans (by rw [hcell]; rfl), (hx.cell (p := ⟨p, 3, none⟩) (by show p < B; omega)).trans (by rw [hcell]; rfl), (hx.cell (p := ⟨p, 5, none⟩) (by show p < B; omega)).trans (by rw [hcell]; rfl)⟩)
  have hrow' := hrow.of (hag a hal hah)
  have HR : Hid (∀ wx, Below B w' wx → ∀ k (h : k < n), wx.cell? ⟨a, k, none⟩ = some (vs[k]'(by omega))) := Lib.hid (fun wx hx k h => (hrow'.of (hx.block a (by omega))).cell k (by omega))
  have HPR : Hid (∀ k (h : k < n) wx L, Below B w' wx → Buf B b L wx → L.length + (Ts k).length ≤ 1000000 → PrintCall (Ts k) B b L (vs[k]'(by omega)) wx) := Lib.hid (fun k h wx L hx hL hl => (hpr k (by omega)).call (fun j h1 h2 => (hx.block j (by omega)).trans (hag j h1 h2)) hB (Nat.le_trans hBw hx.size) hL hl trivial)
  have HLN : Hid (∀ k, k ≤ n → (sumT Ts k).length ≤ (sumT Ts n).length) := Lib.hid (fun k h => sumT_mono Ts h)
  have HBW := Lib.hid hb
  obtain ⟨c0, d0, e0⟩ := HCL.out w' (Below.refl _ _)
  clear hb hag hpre hp hrow hrow' hpr hcell
  simp only [List.length_append, List.length_cons, List.length_nil] at hlen
  unfold Wrote
  go_enter Tryz.func74, Tryz.ntmps74
  go_wp2_with (first
    | (go_at_call 68; refine (buf_string B b _ _ _ HB1.out (Nat.le_trans hBw hl1.size) (by simp only [List.length_append, List.length_cons, List.length_nil]; omega) (by decide)).mono ?_; rintro e w4 ⟨rfl, hb, hl, hk⟩; have HB2 := Lib.hid hb; have hl2 := hl1.trans hl; have hk2 := hk1.trans hk; clear hl1 hk1; clear hb hl hk c1 d1 e1; obtain ⟨c2, d2, e2⟩ := HCL.out _ hl2)
    | (go_at_call 68; refine (buf_string B b _ _ _ HBW.out (hBw) (by omega) (by decide)).mono ?_; rintro e w4 ⟨rfl, hb, hl, hk⟩; have HB1 := Lib.hid hb; have hl1 := hl; have hk1 := hk; clear hb hl hk c0 d0 e0; obtain ⟨c1, d1, e1⟩ := HCL.out _ hl1))
  go_loopg [43] n (fun gg i wx => ∃ k, k + gg = n ∧ i = .int .i64 (k : Nat) ∧ Hid (Buf B b ((l ++ [60, 111, 108] ++ [62, 10]) ++ sumT Ts k) wx) ∧ Below B w' wx ∧ Kept b w' wx)
  case atStart => exact ⟨0, by omega, rfl, Lib.hid (by simpa [sumT, List.append_assoc] using HB2.out), hl2, hk2⟩
  case round =>
    obtain ⟨k, hk, rfl, HB5, hl5, hk5⟩ := hrel
    by_cases hlt : k < n
    · have hc := HR.out wr hl5 k hlt
      have hlk := HLN.out (k + 1) hlt
      simp only [sumT, List.length_append] at hlk
      obtain ⟨t, q, f, hv, hm, hen, hcall⟩ := HPR.out k hlt wr _ hl5 HB5.out (by simp only [List.length_append, List.length_cons, List.length_nil]; omega)
      rw [hv] at hc
      have HC := Lib.hid hcall
      clear hcall hv
      unfold Enters at hen
      go_wp2_with ((with_reducible refine HC.out.mono ?_); rintro e w6 ⟨rfl, hb6, hl6, hk6⟩)
      go_roundg (gk - 1)
      case measure => omega
      case rel => exact ⟨k + 1, by omega, by go_num, Lib.hid (by rw [List.append_assoc] at hb6; exact hb6), hl5.trans hl6, hk5.trans hk6⟩
    · have hkn : k = n := by omega
      subst hkn
      clear c2 d2 e2
      obtain ⟨c9, d9, e9⟩ := HCL.out _ hl5
      go_wp2_with (go_at_call 68; refine (buf_string B b _ _ _ HB5.out (Nat.le_trans hBw hl5.size) (by simp only [List.length_append, List.length_cons, List.length_nil]; omega) (by decide)).mono ?_; rintro e w7 ⟨rfl, hb7, hl7, hk7⟩)
      go_end0
      exact ⟨rfl, by simpa [List.append_assoc] using hb7, hl5.trans hl7, hk5.trans hk7⟩
set_option maxHeartbeats 4000000 in
set_option maxRecDepth 100000 in
theorem List_dot (Ts : Nat → List UInt8) (n lo hi p i : Nat) (m1 m2 m3 s : Value) (w : World) (hp : w.heap[p]? = some (.cells #[m1, m2, .int .i32 46, (.int .i64 (i : Nat)), m3, s] 71 (0, 0))) (hlo : lo ≤ p) (hhi : p < hi) (hr : RowPrints Any 45 Ts n lo hi s w) (hi1 : ¬ (i : Int) = 1) (hi6 : i < 100) :
    PrintsBy Any 74 ⟨p, 0, none⟩ (([60, 111, 108] ++ ([32, 115, 116, 97, 114, 116, 61, 34] ++ Lib.decDigits i ++ [34]) ++ [62, 10]) ++ (sumT Ts n ++ [60, 47, 111, 108, 62, 10])) lo hi w := by
  obtain ⟨a, c, vs, rfl, hn, hn1, hal, hah, hrow, hpr⟩ := hr
  intro w' B b l hag hB hBw hb hlen hpre
  have hcell := fun j => Lib.cell_of_heap ((hag p hlo hhi).trans hp) j
  have HCL : Hid (∀ wx, Below B w' wx → wx.cell? ⟨p, 2, none⟩ = some (.int .i32 46) ∧ wx.cell? ⟨p, 3, none⟩ = some (.int .i64 (i : Nat)) ∧ wx.cell? ⟨p, 5, none⟩ = some (.slice (some ⟨a, 0, none⟩) n c)) := Lib.hid (fun wx hx => ⟨(hx.cell (p := ⟨p, 2, none⟩) (by show p < B; omega)).trans (by rw [hcell]; rfl), (hx.cell (p := ⟨p, 3, none⟩) (by show p < B; omega)).trans (by rw [hcell]; rfl), (hx.cell (p := ⟨p, 5, none⟩) (by show p < B; omega)).trans (by rw [hcell]; rfl)⟩)
  have hrow' := hrow.of (hag a hal hah)
  have HR : Hid (∀ wx, Below B w' wx → ∀ k (h : k < n), wx.cell? ⟨a, k, none⟩ = some (vs[k]'(by omega))) := Lib.hid (fun wx hx k h => (hrow'.of (hx.block a (by omega))).cell k (by omega))
  have HPR : Hid (∀ k (h : k < n) wx L, Below B w' wx → Buf B b L wx → L.length + (Ts k).length ≤ 1000000 → PrintCall (Ts k) B b L (vs[k]'(by omega)) wx) := Lib.hid (fun k h wx L hx hL hl => (hpr k (by omega)).call (fun j h1 h2 => (hx.block j (by omega)).trans (hag j h1 h2)) hB (Nat.le_trans hBw hx.size) hL hl trivial)
  have HLN : Hid (∀ k, k ≤ n → (sumT Ts k).length ≤ (sumT Ts n).length) := Lib.hid (fun k h => sumT_mono Ts h)
  have HBW := Lib.hid hb
  obtain ⟨c0, d0, e0⟩ := HCL.out w' (Below.refl _ _)
  clear hb hag hpre hp hrow hrow' hpr hcell
  have hdl := dig_len i hi6
  have HI := Lib.hid (fun w => Tryz.strconv_Itoa_small i hi6 w)
  generalize Lib.decDigits i = D at *
  have hds : (⟨D.toArray⟩ : ByteArray).size ≤ 2 := by show D.toArray.size ≤ 2; simpa using hdl
  have HS1 : Hid (((⟨#[32, 115, 116, 97, 114, 116, 61, 34]⟩ : ByteArray) ++ ⟨D.toArray⟩ ++ ⟨#[34]⟩).size ≤ 100) := Lib.hid (by rw [ByteArray.size_append, ByteArray.size_append]; show 8 + _ + 1 ≤ _; omega)
  have HE1 : Hid (((⟨#[32, 115, 116, 97, 114, 116, 61, 34]⟩ : ByteArray) ++ ⟨D.toArray⟩ ++ ⟨#[34]⟩).data.toList = [32, 115, 116, 97, 114, 116, 61, 34] ++ D ++ [34]) := Lib.hid (by simp)
  simp only [List.length_append, List.length_cons, List.length_nil] at hlen
  unfold Wrote
  go_enter Tryz.func74, Tryz.ntmps74
  go_wp2_with (first
    | (go_at_call 76; refine (HI.out _).mono ?_; rintro e w3 ⟨rfl, rfl⟩)
    | (go_at_call 68; refine (buf_string B b _ _ _ HB2.out (Nat.le_trans hBw hl2.size) (by simp only [List.length_append, List.length_cons, List.length_nil]; omega) (by decide)).mono ?_; rintro e w4 ⟨rfl, hb, hl, hk⟩; have HB3 := Lib.hid hb; have hl3 := hl2.trans hl; have hk3 := hk2.trans hk; clear hl2 hk2; clear hb hl hk c2 d2 e2; obtain ⟨c3, d3, e3⟩ := HCL.out _ hl3)
    | (go_at_call 68; refine (buf_string B b _ _ _ HB1.out (Nat.le_trans hBw hl1.size) (by simp only [List.length_append, List.length_cons, List.length_nil]; omega) (Nat.le_trans HS1.out (by decide))).mono ?_; rintro e w4 ⟨rfl, hb, hl, hk⟩; rw [HE1.out] at hb; have HB2 := Lib.hid hb; have hl2 := hl1.trans hl; have hk2 := hk1.trans hk; clear hl1 hk1; clear hb hl hk c1 d1 e1; obtain ⟨c2, d2, e2⟩ := HCL.out _ hl2)
    | (go_at_call 68; refine (buf_string B b _ _ _ HBW.out (hBw) (by omega) (by decide)).mono ?_; rintro e w4 ⟨rfl, hb, hl, hk⟩; have HB1 := Lib.hid hb; have hl1 := hl; have hk1 := hk; clear hb hl hk c0 d0 e0; obtain ⟨c1, d1, e1⟩ := HCL.out _ hl1))
  go_loopg [43] n (fun gg i wx => ∃ k, k + gg = n ∧ i = .int .i64 (k : Nat) ∧ Hid (Buf B b ((l ++ [60, 111, 108] ++ ([32, 115, 116, 97, 114, 116, 61, 34] ++ D ++ [34]) ++ [62, 10]) ++ sumT Ts k) wx) ∧ Below B w' wx ∧ Kept b w' wx)
  case atStart => exact ⟨0, by omega, rfl, Lib.hid (by simpa [sumT, List.append_assoc] using HB3.out), hl3, hk3⟩
  case round =>
    obtain ⟨k, hk, rfl, HB5, hl5, hk5⟩ := hrel
    by_cases hlt : k < n
    · have hc := HR.out wr hl5 k hlt
      have hlk := HLN.out (k + 1) hlt
      simp only [sumT, List.length_append] at hlk
      obtain ⟨t, q, f, hv, hm, hen, hcall⟩ := HPR.out k hlt wr _ hl5 HB5.out (by simp only [List.length_append, List.length_cons, List.length_nil]; omega)
      rw [hv] at hc
      have HC := Lib.hid hcall
      clear hcall hv
      unfold Enters at hen
      go_wp2_with ((with_reducible refine HC.out.mono ?_); rintro e w6 ⟨rfl, hb6, hl6, hk6⟩)
      go_roundg (gk - 1)
      case measure => omega
      case rel => exact ⟨k + 1, by omega, by go_num, Lib.hid (by rw [List.append_assoc] at hb6; exact hb6), hl5.trans hl6, hk5.trans hk6⟩
    · have hkn : k = n := by omega
      subst hkn
      clear c3 d3 e3
      obtain ⟨c9, d9, e9⟩ := HCL.out _ hl5
      go_wp2_with (go_at_call 68; refine (buf_string B b _ _ _ HB5.out (Nat.le_trans hBw hl5.size) (by simp only [List.length_append, List.length_cons, List.length_nil]; omega) (by decide)).mono ?_; rintro e w7 ⟨rfl, hb7, hl7, hk7⟩)
      go_end0
      exact ⟨rfl, by simpa [List.append_assoc] using hb7, hl5.trans hl7, hk5.trans hk7⟩
set_option maxHeartbeats 4000000 in
set_option maxRecDepth 100000 in
theorem List_par_one (Ts : Nat → List UInt8) (n lo hi p : Nat) (m1 m2 m3 s : Value) (w : World) (hp : w.heap[p]? = some (.cells #[m1, m2, .int .i32 41, (.int .i64 1), m3, s] 71 (0, 0))) (hlo : lo ≤ p) (hhi : p < hi) (hr : RowPrints Any 45 Ts n lo hi s w) :
    PrintsBy Any 74 ⟨p, 0, none⟩ (([60, 111, 108] ++ [62, 10]) ++ (sumT Ts n ++ [60, 47, 111, 108, 62, 10])) lo hi w := by
  obtain ⟨a, c, vs, rfl, hn, hn1, hal, hah, hrow, hpr⟩ := hr
  intro w' B b l hag hB hBw hb hlen hpre
  have hcell := fun j => Lib.cell_of_heap ((hag p hlo hhi).trans hp) j
  have HCL : Hid (∀ wx, Below B w' wx → wx.cell? ⟨p, 2, none⟩ = some (.int .i32 41) ∧ wx.cell? ⟨p, 3, none⟩ = some (.int .i64 1) ∧ wx.cell? ⟨p, 5, none⟩ = some (.slice (some ⟨a, 0, none⟩) n c)) := Lib.hid (fun wx hx => ⟨(hx.cell (p := ⟨p, 2, none⟩) (by show p < B; omega)).trans (by rw [hcell]; rfl), (hx.cell (p := ⟨p, 3, none⟩) (by show p < B; omega)).trans (by rw [hcell]; rfl), (hx.cell (p := ⟨p, 5, none⟩) (by show p < B; omega)).trans (by rw [hcell]; rfl)⟩)
  have hrow' := hrow.of (hag a hal hah)
  have HR : Hid (∀ wx, Below B w' wx → ∀ k (h : k < n), wx.cell? ⟨a, k, none⟩ = some (vs[k]'(by omega))) := Lib.hid (fun wx hx k h => (hrow'.of (hx.block a (by omega))).cell k (by omega))
  have HPR : Hid (∀ k (h : k < n) wx L, Below B w' wx → Buf B b L wx → L.length + (Ts k).length ≤ 1000000 → PrintCall (Ts k) B b L (vs[k]'(by omega)) wx) := Lib.hid (fun k h wx L hx hL hl => (hpr k (by omega)).call (fun j h1 h2 => (hx.block j (by omega)).trans (hag j h1 h2)) hB (Nat.le_trans hBw hx.size) hL hl trivial)
  have HLN : Hid (∀ k, k ≤ n → (sumT Ts k).length ≤ (sumT Ts n).length) := Lib.hid (fun k h => sumT_mono Ts h)
  have HBW := Lib.hid hb
  obtain ⟨c0, d0, e0⟩ := HCL.out w' (Below.refl _ _)
  clear hb hag hpre hp hrow hrow' hpr hcell
  simp only [List.length_append, List.length_cons, List.length_nil] at hlen
  unfold Wrote
  go_enter Tryz.func74, Tryz.ntmps74
  go_wp2_with (first
    | (go_at_call 68; refine (buf_string B b _ _ _ HB1.out (Nat.le_trans hBw hl1.size) (by simp only [List.length_append, List.length_cons, List.length_nil]; omega) (by decide)).mono ?_; rintro e w4 ⟨rfl, hb, hl, hk⟩; have HB2 := Lib.hid hb; have hl2 := hl1.trans hl; have hk2 := hk1.trans hk; clear hl1 hk1; clear hb hl hk c1 d1 e1; obtain ⟨c2, d2, e2⟩ := HCL.out _ hl2)
    | (go_at_call 68; refine (buf_string B b _ _ _ HBW.out (hBw) (by omega) (by decide)).mono ?_; rintro e w4 ⟨rfl, hb, hl, hk⟩; have HB1 := Lib.hid hb; have hl1 := hl; have hk1 := hk; clear hb hl hk c0 d0 e0; obtain ⟨c1, d1, e1⟩ := HCL.out _ hl1))
  go_loopg [43] n (fun gg i wx => ∃ k, k + gg = n ∧ i = .int .i64 (k : Nat) ∧ Hid (Buf B b ((l ++ [60, 111, 108] ++ [62, 10]) ++ sumT Ts k) wx) ∧ Below B w' wx ∧ Kept b w' wx)
  case atStart => exact ⟨0, by omega, rfl, Lib.hid (by simpa [sumT, List.append_assoc] using HB2.out), hl2, hk2⟩
  case round =>
    obtain ⟨k, hk, rfl, HB5, hl5, hk5⟩ := hrel
    by_cases hlt : k < n
    · have hc := HR.out wr hl5 k hlt
      have hlk := HLN.out (k + 1) hlt
      simp only [sumT, List.length_append] at hlk
      obtain ⟨t, q, f, hv, hm, hen, hcall⟩ := HPR.out k hlt wr _ hl5 HB5.out (by simp only [List.length_append, List.length_cons, List.length_nil]; omega)
      rw [hv] at hc
      have HC := Lib.hid hcall
      clear hcall hv
      unfold Enters at hen
      go_wp2_with ((with_reducible refine HC.out.mono ?_); rintro e w6 ⟨rfl, hb6, hl6, hk6⟩)
      go_roundg (gk - 1)
      case measure => omega
      case rel => exact ⟨k + 1, by omega, by go_num, Lib.hid (by rw [List.append_assoc] at hb6; exact hb6), hl5.trans hl6, hk5.trans hk6⟩
    · have hkn : k = n := by omega
      subst hkn
      clear c2 d2 e2
      obtain ⟨c9, d9, e9⟩ := HCL.out _ hl5
      go_wp2_with (go_at_call 68; refine (buf_string B b _ _ _ HB5.out (Nat.le_trans hBw hl5.size) (by simp only [List.length_append, List.length_cons, List.length_nil]; omega) (by decide)).mono ?_; rintro e w7 ⟨rfl, hb7, hl7, hk7⟩)
      go_end0
      exact ⟨rfl, by simpa [List.append_assoc] using hb7, hl5.trans hl7, hk5.trans hk7⟩
set_option maxHeartbeats 4000000 in
set_option maxRecDepth 100000 in
theorem List_par (Ts : Nat → List UInt8) (n lo hi p i : Nat) (m1 m2 m3 s : Value) (w : World) (hp : w.heap[p]? = some (.cells #[m1, m2, .int .i32 41, (.int .i64 (i : Nat)), m3, s] 71 (0, 0))) (hlo : lo ≤ p) (hhi : p < hi) (hr : RowPrints Any 45 Ts n lo hi s w) (hi1 : ¬ (i : Int) = 1) (hi6 : i < 100) :
    PrintsBy Any 74 ⟨p, 0, none⟩ (([60, 111, 108] ++ ([32, 115, 116, 97, 114, 116, 61, 34] ++ Lib.decDigits i ++ [34]) ++ [62, 10]) ++ (sumT Ts n ++ [60, 47, 111, 108, 62, 10])) lo hi w := by
  obtain ⟨a, c, vs, rfl, hn, hn1, hal, hah, hrow, hpr⟩ := hr
  intro w' B b l hag hB hBw hb hlen hpre
  have hcell := fun j => Lib.cell_of_heap ((hag p hlo hhi).trans hp) j
  have HCL : Hid (∀ wx, Below B w' wx → wx.cell? ⟨p, 2, none⟩ = some (.int .i32 41) ∧ wx.cell? ⟨p, 3, none⟩ = some (.int .i64 (i : Nat)) ∧ wx.cell? ⟨p, 5, none⟩ = some (.slice (some ⟨a, 0, none⟩) n c)) := Lib.hid (fun wx hx => ⟨(hx.cell (p := ⟨p, 2, none⟩) (by show p < B; omega)).trans (by rw [hcell]; rfl), (hx.cell (p := ⟨p, 3, none⟩) (by show p < B; omega)).trans (by rw [hcell]; rfl), (hx.cell (p := ⟨p, 5, none⟩) (by show p < B; omega)).trans (by rw [hcell]; rfl)⟩)
  have hrow' := hrow.of (hag a hal hah)
  have HR : Hid (∀ wx, Below B w' wx → ∀ k (h : k < n), wx.cell? ⟨a, k, none⟩ = some (vs[k]'(by omega))) := Lib.hid (fun wx hx k h => (hrow'.of (hx.block a (by omega))).cell k (by omega))
  have HPR : Hid (∀ k (h : k < n) wx L, Below B w' wx → Buf B b L wx → L.length + (Ts k).length ≤ 1000000 → PrintCall (Ts k) B b L (vs[k]'(by omega)) wx) := Lib.hid (fun k h wx L hx hL hl => (hpr k (by omega)).call (fun j h1 h2 => (hx.block j (by omega)).trans (hag j h1 h2)) hB (Nat.le_trans hBw hx.size) hL hl trivial)
  have HLN : Hid (∀ k, k ≤ n → (sumT Ts k).length ≤ (sumT Ts n).length) := Lib.hid (fun k h => sumT_mono Ts h)
  have HBW := Lib.hid hb
  obtain ⟨c0, d0, e0⟩ := HCL.out w' (Below.refl _ _)
  clear hb hag hpre hp hrow hrow' hpr hcell
  have hdl := dig_len i hi6
  have HI := Lib.hid (fun w => Tryz.strconv_Itoa_small i hi6 w)
  generalize Lib.decDigits i = D at *
  have hds : (⟨D.toArray⟩ : ByteArray).size ≤ 2 := by show D.toArray.size ≤ 2; simpa using hdl
  have HS1 : Hid (((⟨#[32, 115, 116, 97, 114, 116, 61, 34]⟩ : ByteArray) ++ ⟨D.toArray⟩ ++ ⟨#[34]⟩).size ≤ 100) := Lib.hid (by rw [ByteArray.size_append, ByteArray.size_append]; show 8 + _ + 1 ≤ _; omega)
  have HE1 : Hid (((⟨#[32, 115, 116, 97, 114, 116, 61, 34]⟩ : ByteArray) ++ ⟨D.toArray⟩ ++ ⟨#[34]⟩).data.toList = [32, 115, 116, 97, 114, 116, 61, 34] ++ D ++ [34]) := Lib.hid (by simp)
  simp only [List.length_append, List.length_cons, List.length_nil] at hlen
  unfold Wrote
  go_enter Tryz.func74, Tryz.ntmps74
  go_wp2_with (first
    | (go_at_call 76; refine (HI.out _).mono ?_; rintro e w3 ⟨rfl, rfl⟩)
    | (go_at_call 68; refine (buf_string B b _ _ _ HB2.out (Nat.le_trans hBw hl2.size) (by simp only [List.length_append, List.length_cons, List.length_nil]; omega) (by decide)).mono ?_; rintro e w4 ⟨rfl, hb, hl, hk⟩; have HB3 := Lib.hid hb; have hl3 := hl2.trans hl; have hk3 := hk2.trans hk; clear hl2 hk2; clear hb hl hk c2 d2 e2; obtain ⟨c3, d3, e3⟩ := HCL.out _ hl3)
    | (go_at_call 68; refine (buf_string B b _ _ _ HB1.out (Nat.le_trans hBw hl1.size) (by simp only [List.length_append, List.length_cons, List.length_nil]; omega) (Nat.le_trans HS1.out (by decide))).mono ?_; rintro e w4 ⟨rfl, hb, hl, hk⟩; rw [HE1.out] at hb; have HB2 := Lib.hid hb; have hl2 := hl1.trans hl; have hk2 := hk1.trans hk; clear hl1 hk1; clear hb hl hk c1 d1 e1; obtain ⟨c2, d2, e2⟩ := HCL.out _ hl2)
    | (go_at_call 68; refine (buf_string B b _ _ _ HBW.out (hBw) (by omega) (by decide)).mono ?_; rintro e w4 ⟨rfl, hb, hl, hk⟩; have HB1 := Lib.hid hb; have hl1 := hl; have hk1 := hk; clear hb hl hk c0 d0 e0; obtain ⟨c1, d1, e1⟩ := HCL.out _ hl1))
  go_loopg [43] n (fun gg i wx => ∃ k, k + gg = n ∧ i = .int .i64 (k : Nat) ∧ Hid (Buf B b ((l ++ [60, 111, 108] ++ ([32, 115, 116, 97, 114, 116, 61, 34] ++ D ++ [34]) ++ [62, 10]) ++ sumT Ts k) wx) ∧ Below B w' wx ∧ Kept b w' wx)
  case atStart => exact ⟨0, by omega, rfl, Lib.hid (by simpa [sumT, List.append_assoc] using HB3.out), hl3, hk3⟩
  case round =>
    obtain ⟨k, hk, rfl, HB5, hl5, hk5⟩ := hrel
    by_cases hlt : k < n
    · have hc := HR.out wr hl5 k hlt
      have hlk := HLN.out (k + 1) hlt
      simp only [sumT, List.length_append] at hlk
      obtain ⟨t, q, f, hv, hm, hen, hcall⟩ := HPR.out k hlt wr _ hl5 HB5.out (by simp only [List.length_append, List.length_cons, List.length_nil]; omega)
      rw [hv] at hc
      have HC := Lib.hid hcall
      clear hcall hv
      unfold Enters at hen
      go_wp2_with ((with_reducible refine HC.out.mono ?_); rintro e w6 ⟨rfl, hb6, hl6, hk6⟩)
      go_roundg (gk - 1)
      case measure => omega
      case rel => exact ⟨k + 1, by omega, by go_num, Lib.hid (by rw [List.append_assoc] at hb6; exact hb6), hl5.trans hl6, hk5.trans hk6⟩
    · have hkn : k = n := by omega
      subst hkn
      clear c3 d3 e3
      obtain ⟨c9, d9, e9⟩ := HCL.out _ hl5
      go_wp2_with (go_at_call 68; refine (buf_string B b _ _ _ HB5.out (Nat.le_trans hBw hl5.size) (by simp only [List.length_append, List.length_cons, List.length_nil]; omega) (by decide)).mono ?_; rintro e w7 ⟨rfl, hb7, hl7, hk7⟩)
      go_end0
      exact ⟨rfl, by simpa [List.append_assoc] using hb7, hl5.trans hl7, hk5.trans hk7⟩
set_option maxHeartbeats 4000000 in
set_option maxRecDepth 100000 in
theorem List_bul (Ts : Nat → List UInt8) (n lo hi p i : Nat) (bul : Int) (m1 m2 m3 s : Value) (w : World) (hp : w.heap[p]? = some (.cells #[m1, m2, .int .i32 bul, (.int .i64 (i : Nat)), m3, s] 71 (0, 0))) (hlo : lo ≤ p) (hhi : p < hi) (hr : RowPrints Any 45 Ts n lo hi s w) (hb1 : (bul == 46) = false) (hb2 : (bul == 41) = false) :
    PrintsBy Any 74 ⟨p, 0, none⟩ (([60, 117, 108, 62, 10]) ++ (sumT Ts n ++ [60, 47, 117, 108, 62, 10])) lo hi w := by
  obtain ⟨a, c, vs, rfl, hn, hn1, hal, hah, hrow, hpr⟩ := hr
  intro w' B b l hag hB hBw hb hlen hpre
  have hcell := fun j => Lib.cell_of_heap ((hag p hlo hhi).trans hp) j
  have HCL : Hid (∀ wx, Below B w' wx → wx.cell? ⟨p, 2, none⟩ = some (.int .i32 bul) ∧ wx.cell? ⟨p, 3, none⟩ = some (.int .i64 (i : Nat)) ∧ wx.cell? ⟨p, 5, none⟩ = some (.slice (some ⟨a, 0, none⟩) n c)) := Lib.hid (fun wx hx => ⟨(hx.cell (p := ⟨p, 2, none⟩) (by show p < B; omega)).trans (by rw [hcell]; rfl), (hx.cell (p := ⟨p, 3, none⟩) (by show p < B; omega)).trans (by rw [hcell]; rfl), (hx.cell (p := ⟨p, 5, none⟩) (by show p < B; omega)).trans (by rw [hcell]; rfl)⟩)
  have hrow' := hrow.of (hag a hal hah)
  have HR : Hid (∀ wx, Below B w' wx → ∀ k (h : k < n), wx.cell? ⟨a, k, none⟩ = some (vs[k]'(by omega))) := Lib.hid (fun wx hx k h => (hrow'.of (hx.block a (by omega))).cell k (by omega))
  have HPR : Hid (∀ k (h : k < n) wx L, Below B w' wx → Buf B b L wx → L.length + (Ts k).length ≤ 1000000 → PrintCall (Ts k) B b L (vs[k]'(by omega)) wx) := Lib.hid (fun k h wx L hx hL hl => (hpr k (by omega)).call (fun j h1 h2 => (hx.block j (by omega)).trans (hag j h1 h2)) hB (Nat.le_trans hBw hx.size) hL hl trivial)
  have HLN : Hid (∀ k, k ≤ n → (sumT Ts k).length ≤ (sumT Ts n).length) := Lib.hid (fun k h => sumT_mono Ts h)
  have HBW := Lib.hid hb
  obtain ⟨c0, d0, e0⟩ := HCL.out w' (Below.refl _ _)
  clear hb hag hpre hp hrow hrow' hpr hcell
  simp only [List.length_append, List.length_cons, List.length_nil] at hlen
  unfold Wrote
  go_enter Tryz.func74, Tryz.ntmps74
  go_wp2_with (first
    | (go_at_call 68; refine (buf_string B b _ _ _ HBW.out (hBw) (by omega) (by decide)).mono ?_; rintro e w4 ⟨rfl, hb, hl, hk⟩; have HB1 := Lib.hid hb; have hl1 := hl; have hk1 := hk; clear hb hl hk c0 d0 e0; obtain ⟨c1, d1, e1⟩ := HCL.out _ hl1))
  go_loopg [43] n (fun gg i wx => ∃ k, k + gg = n ∧ i = .int .i64 (k : Nat) ∧ Hid (Buf B b ((l ++ [60, 117, 108, 62, 10]) ++ sumT Ts k) wx) ∧ Below B w' wx ∧ Kept b w' wx)
  case atStart => exact ⟨0, by omega, rfl, Lib.hid (by simpa [sumT, List.append_assoc] using HB1.out), hl1, hk1⟩
  case round =>
    obtain ⟨k, hk, rfl, HB5, hl5, hk5⟩ := hrel
    by_cases hlt : k < n
    · have hc := HR.out wr hl5 k hlt
      have hlk := HLN.out (k + 1) hlt
      simp only [sumT, List.length_append] at hlk
      obtain ⟨t, q, f, hv, hm, hen, hcall⟩ := HPR.out k hlt wr _ hl5 HB5.out (by simp only [List.length_append, List.length_cons, List.length_nil]; omega)
      rw [hv] at hc
      have HC := Lib.hid hcall
      clear hcall hv
      unfold Enters at hen
      go_wp2_with ((with_reducible refine HC.out.mono ?_); rintro e w6 ⟨rfl, hb6, hl6, hk6⟩)
      go_roundg (gk - 1)
      case measure => omega
      case rel => exact ⟨k + 1, by omega, by go_num, Lib.hid (by rw [List.append_assoc] at hb6; exact hb6), hl5.trans hl6, hk5.trans hk6⟩
    · have hkn : k = n := by omega
      subst hkn
      clear c1 d1 e1
      obtain ⟨c9, d9, e9⟩ := HCL.out _ hl5
      go_wp2_with (go_at_call 68; refine (buf_string B b _ _ _ HB5.out (Nat.le_trans hBw hl5.size) (by simp only [List.length_append, List.length_cons, List.length_nil]; omega) (by decide)).mono ?_; rintro e w7 ⟨rfl, hb7, hl7, hk7⟩)
      go_end0
      exact ⟨rfl, by simpa [List.append_assoc] using hb7, hl5.trans hl7, hk5.trans hk7⟩
theorem List_by (Ts : Nat → List UInt8) (n lo hi p i : Nat) (bul : Int) (m1 m2 m3 s : Value) (w : World) (hp : w.heap[p]? = some (.cells #[m1, m2, .int .i32 bul, .int .i64 i, m3, s] 71 (0, 0))) (hlo : lo ≤ p) (hhi : p < hi) (hr : RowPrints Any 45 Ts n lo hi s w) (hi6 : i < 100) :
    PrintsBy Any 74 ⟨p, 0, none⟩ (listH (decide (bul = 46 ∨ bul = 41)) i (sumT Ts n)) lo hi w := by
  unfold listH listO listC
  by_cases h1 : bul = 46
  · subst h1
    by_cases hi1 : i = 1
    · subst hi1
      have := List_dot_one Ts n lo hi p m1 m2 m3 s w hp hlo hhi hr
      simpa using this
    · have := List_dot Ts n lo hi p i m1 m2 m3 s w hp hlo hhi hr (by omega) hi6
      simpa [hi1] using this
  · by_cases h2 : bul = 41
    · subst h2
      by_cases hi1 : i = 1
      · subst hi1
        have := List_par_one Ts n lo hi p m1 m2 m3 s w hp hlo hhi hr
        simpa using this
      · have := List_par Ts n lo hi p i m1 m2 m3 s w hp hlo hhi hr (by omega) hi6
        simpa [hi1] using this
    · have := List_bul Ts n lo hi p i bul m1 m2 m3 s w hp hlo hhi hr (by simpa using h1) (by simpa using h2)
      simpa [h1, h2] using this
theorem List_prints {pre : List UInt8 → Prop} {p : Addr} {T : List UInt8} {lo hi : Nat} {w : World} (h : PrintsBy pre 74 p T lo hi w) : Prints pre T lo hi (.iface 69 (.pointer (some p))) w :=
  ⟨_, _, _, rfl, fun w' => by kernel_rfl, enters_of Tryz.func74 (by kernel_rfl) (by kernel_rfl), h⟩
end Go.Proofs.YtnocllocnoodnaaGreatDoor
