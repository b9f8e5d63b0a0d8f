/- PrintHTML of what prints a row of inlines or of blocks (printed by wip/tools/mkprints.py). -/
import Derived.Test.YtnocllocnoodnaaGreatDoorNodeMade
import Derived.Deep.LoopGhost
namespace Go.Proofs.YtnocllocnoodnaaGreatDoor
open Go.RowKit
set_option maxHeartbeats 4000000 in
set_option maxRecDepth 100000 in
theorem md_Emph_by (Ts : Nat → List UInt8) (n lo hi p : Nat) (m s : Value) (w : World) (hp : w.heap[p]? = some (.cells #[m, s] 149 (0, 0))) (hlo : lo ≤ p) (hhi : p < hi) (hr : RowPrints Any 135 Ts n lo hi s w) :
    PrintsBy Any 133 ⟨p, 0, none⟩ ([60, 101, 109, 62] ++ (sumT Ts n ++ [60, 47, 101, 109, 62])) lo hi w := by
  obtain ⟨a, c, vs, rfl, hn, hn1, hal, hah, hrow, hpr⟩ := hr
  intro w' B b l hag hB hBw hb hlen hpre
  have d0 : w'.cell? ⟨p, 1, none⟩ = some (.slice (some ⟨a, 0, none⟩) n c) := by rw [Lib.cell_of_heap ((hag p hlo hhi).trans hp)]; rfl
  have hrow' := hrow.of (hag a hal hah)
  have HR : Hid (∀ wx, Below B w' wx → ∀ k (h : k < n), wx.cell? ⟨a, k, none⟩ = some (vs[k]'(by omega))) := Lib.hid (fun wx hx k h => (hrow'.of (hx.block a (by omega))).cell k (by omega))
  have HPR : Hid (∀ k (h : k < n) wx L, Below B w' wx → Buf B b L wx → L.length + (Ts k).length ≤ 1000000 → Any L → PrintCall (Ts k) B b L (vs[k]'(by omega)) wx) := Lib.hid (fun k h wx L hx hL hl hq => (hpr k (by omega)).call (fun j h1 h2 => (hx.block j (by omega)).trans (hag j h1 h2)) hB (Nat.le_trans hBw hx.size) hL hl hq)
  have HLN : Hid (∀ k, k ≤ n → (sumT Ts k).length ≤ (sumT Ts n).length) := Lib.hid (fun k h => sumT_mono Ts h)
  have HNL : Hid (∀ k, k ≤ n → Any (l ++ [60, 101, 109, 62] ++ sumT Ts k)) := Lib.hid (fun k h => trivial)
  clear hag hp hrow hrow' hpr hpre
  simp only [List.length_append, List.length_cons, List.length_nil] at hlen
  have HBW := Lib.hid hb
  unfold Wrote
  clear hb
  go_enter Tryz.func133, Tryz.ntmps133
  go_wp2_with (go_at_call 68; refine (buf_string B b _ _ _ HBW.out hBw (by omega) (by decide)).mono ?_; rintro e w4 ⟨rfl, hb4, hl4, hk4⟩; have d1 := (hl4.cell (p := ⟨p, 1, none⟩) (by show p < B; omega)).trans d0; have HB4 := Lib.hid hb4; clear hb4)
  go_loopg [13] n (fun gg i wx => ∃ k, k + gg = n ∧ i = .int .i64 (k : Nat) ∧ Hid (Buf B b (l ++ [60, 101, 109, 62] ++ sumT Ts k) wx) ∧ Below B w' wx ∧ Kept b w' wx)
  case atStart => exact ⟨0, by omega, rfl, Lib.hid (by simpa [sumT] using HB4.out), hl4, hk4⟩
  case round =>
    obtain ⟨k, hk, rfl, HB5, hl5, hk5⟩ := hrel
    by_cases hlt : k < n
    · have hc := HR.out wr hl5 k hlt
      have hlk := HLN.out (k + 1) hlt
      simp only [sumT, List.length_append] at hlk
      obtain ⟨t, q, f, hv, hm, hen, hcall⟩ := HPR.out k hlt wr _ hl5 HB5.out (by simp only [List.length_append, List.length_cons, List.length_nil]; omega) (HNL.out k (by omega))
      rw [hv] at hc
      have HC := Lib.hid hcall
      clear hcall hv
      unfold Enters at hen
      go_wp2_with ((with_reducible refine HC.out.mono ?_); rintro e w6 ⟨rfl, hb6, hl6, hk6⟩)
      go_roundg (gk - 1)
      case measure => omega
      case rel => exact ⟨k + 1, by omega, by go_num, Lib.hid (by rw [List.append_assoc] at hb6; exact hb6), hl5.trans hl6, hk5.trans hk6⟩
    · have hkn : k = n := by omega
      subst hkn
      go_wp2_with (go_at_call 68; refine (buf_string B b _ _ _ HB5.out (Nat.le_trans hBw hl5.size) (by simp only [List.length_append, List.length_cons, List.length_nil]; omega) (by decide)).mono ?_; rintro e w7 ⟨rfl, hb7, hl7, hk7⟩)
      go_end0
      exact ⟨rfl, by simpa [List.append_assoc] using hb7, hl5.trans hl7, hk5.trans hk7⟩
theorem Emph_prints {pre : List UInt8 → Prop} {p : Addr} {T : List UInt8} {lo hi : Nat} {w : World} (h : PrintsBy pre 133 p T lo hi w) : Prints pre T lo hi (.iface 147 (.pointer (some p))) w :=
  ⟨_, _, _, rfl, fun w' => by kernel_rfl, enters_of Tryz.func133 (by kernel_rfl) (by kernel_rfl), h⟩
set_option maxHeartbeats 4000000 in
set_option maxRecDepth 100000 in
theorem md_Strong_by (Ts : Nat → List UInt8) (n lo hi p : Nat) (m s : Value) (w : World) (hp : w.heap[p]? = some (.cells #[m, s] 151 (0, 0))) (hlo : lo ≤ p) (hhi : p < hi) (hr : RowPrints Any 135 Ts n lo hi s w) :
    PrintsBy Any 137 ⟨p, 0, none⟩ ([60, 115, 116, 114, 111, 110, 103, 62] ++ (sumT Ts n ++ [60, 47, 115, 116, 114, 111, 110, 103, 62])) lo hi w := by
  obtain ⟨a, c, vs, rfl, hn, hn1, hal, hah, hrow, hpr⟩ := hr
  intro w' B b l hag hB hBw hb hlen hpre
  have d0 : w'.cell? ⟨p, 1, none⟩ = some (.slice (some ⟨a, 0, none⟩) n c) := by rw [Lib.cell_of_heap ((hag p hlo hhi).trans hp)]; rfl
  have hrow' := hrow.of (hag a hal hah)
  have HR : Hid (∀ wx, Below B w' wx → ∀ k (h : k < n), wx.cell? ⟨a, k, none⟩ = some (vs[k]'(by omega))) := Lib.hid (fun wx hx k h => (hrow'.of (hx.block a (by omega))).cell k (by omega))
  have HPR : Hid (∀ k (h : k < n) wx L, Below B w' wx → Buf B b L wx → L.length + (Ts k).length ≤ 1000000 → Any L → PrintCall (Ts k) B b L (vs[k]'(by omega)) wx) := Lib.hid (fun k h wx L hx hL hl hq => (hpr k (by omega)).call (fun j h1 h2 => (hx.block j (by omega)).trans (hag j h1 h2)) hB (Nat.le_trans hBw hx.size) hL hl hq)
  have HLN : Hid (∀ k, k ≤ n → (sumT Ts k).length ≤ (sumT Ts n).length) := Lib.hid (fun k h => sumT_mono Ts h)
  have HNL : Hid (∀ k, k ≤ n → Any (l ++ [60, 115, 116, 114, 111, 110, 103, 62] ++ sumT Ts k)) := Lib.hid (fun k h => trivial)
  clear hag hp hrow hrow' hpr hpre
  simp only [List.length_append, List.length_cons, List.length_nil] at hlen
  have HBW := Lib.hid hb
  unfold Wrote
  clear hb
  go_enter Tryz.func137, Tryz.ntmps137
  go_wp2_with (go_at_call 68; refine (buf_string B b _ _ _ HBW.out hBw (by omega) (by decide)).mono ?_; rintro e w4 ⟨rfl, hb4, hl4, hk4⟩; have d1 := (hl4.cell (p := ⟨p, 1, none⟩) (by show p < B; omega)).trans d0; have HB4 := Lib.hid hb4; clear hb4)
  go_loopg [13] n (fun gg i wx => ∃ k, k + gg = n ∧ i = .int .i64 (k : Nat) ∧ Hid (Buf B b (l ++ [60, 115, 116, 114, 111, 110, 103, 62] ++ sumT Ts k) wx) ∧ Below B w' wx ∧ Kept b w' wx)
  case atStart => exact ⟨0, by omega, rfl, Lib.hid (by simpa [sumT] using HB4.out), hl4, hk4⟩
  case round =>
    obtain ⟨k, hk, rfl, HB5, hl5, hk5⟩ := hrel
    by_cases hlt : k < n
    · have hc := HR.out wr hl5 k hlt
      have hlk := HLN.out (k + 1) hlt
      simp only [sumT, List.length_append] at hlk
      obtain ⟨t, q, f, hv, hm, hen, hcall⟩ := HPR.out k hlt wr _ hl5 HB5.out (by simp only [List.length_append, List.length_cons, List.length_nil]; omega) (HNL.out k (by omega))
      rw [hv] at hc
      have HC := Lib.hid hcall
      clear hcall hv
      unfold Enters at hen
      go_wp2_with ((with_reducible refine HC.out.mono ?_); rintro e w6 ⟨rfl, hb6, hl6, hk6⟩)
      go_roundg (gk - 1)
      case measure => omega
      case rel => exact ⟨k + 1, by omega, by go_num, Lib.hid (by rw [List.append_assoc] at hb6; exact hb6), hl5.trans hl6, hk5.trans hk6⟩
    · have hkn : k = n := by omega
      subst hkn
      go_wp2_with (go_at_call 68; refine (buf_string B b _ _ _ HB5.out (Nat.le_trans hBw hl5.size) (by simp only [List.length_append, List.length_cons, List.length_nil]; omega) (by decide)).mono ?_; rintro e w7 ⟨rfl, hb7, hl7, hk7⟩)
      go_end0
      exact ⟨rfl, by simpa [List.append_assoc] using hb7, hl5.trans hl7, hk5.trans hk7⟩
theorem Strong_prints {pre : List UInt8 → Prop} {p : Addr} {T : List UInt8} {lo hi : Nat} {w : World} (h : PrintsBy pre 137 p T lo hi w) : Prints pre T lo hi (.iface 150 (.pointer (some p))) w :=
  ⟨_, _, _, rfl, fun w' => by kernel_rfl, enters_of Tryz.func137 (by kernel_rfl) (by kernel_rfl), h⟩
set_option maxHeartbeats 4000000 in
set_option maxRecDepth 100000 in
theorem md_Text_by (Ts : Nat → List UInt8) (n lo hi p : Nat) (m1 m2 m3 s : Value) (w : World) (hp : w.heap[p]? = some (.cells #[m1, m2, s, m3] 116 (0, 0))) (hlo : lo ≤ p) (hhi : p < hi) (hr : RowPrints Any 135 Ts n lo hi s w) :
    PrintsBy Any 95 ⟨p, 0, none⟩ (sumT Ts n) lo hi w := by
  obtain ⟨a, c, vs, rfl, hn, hn1, hal, hah, hrow, hpr⟩ := hr
  intro w' B b l hag hB hBw hb hlen hpre
  have d0 : w'.cell? ⟨p, 2, none⟩ = some (.slice (some ⟨a, 0, none⟩) n c) := by rw [Lib.cell_of_heap ((hag p hlo hhi).trans hp)]; rfl
  have hrow' := hrow.of (hag a hal hah)
  have HR : Hid (∀ wx, Below B w' wx → ∀ k (h : k < n), wx.cell? ⟨a, k, none⟩ = some (vs[k]'(by omega))) := Lib.hid (fun wx hx k h => (hrow'.of (hx.block a (by omega))).cell k (by omega))
  have HPR : Hid (∀ k (h : k < n) wx L, Below B w' wx → Buf B b L wx → L.length + (Ts k).length ≤ 1000000 → Any L → PrintCall (Ts k) B b L (vs[k]'(by omega)) wx) := Lib.hid (fun k h wx L hx hL hl hq => (hpr k (by omega)).call (fun j h1 h2 => (hx.block j (by omega)).trans (hag j h1 h2)) hB (Nat.le_trans hBw hx.size) hL hl hq)
  have HLN : Hid (∀ k, k ≤ n → (sumT Ts k).length ≤ (sumT Ts n).length) := Lib.hid (fun k h => sumT_mono Ts h)
  have HNL : Hid (∀ k, k ≤ n → Any (l ++ sumT Ts k)) := Lib.hid (fun k h => trivial)
  clear hag hp hrow hrow' hpr hpre
  have HBW := Lib.hid hb
  unfold Wrote
  clear hb
  go_enter Tryz.func95, Tryz.ntmps95
  go_wp2_with (fail)
  go_loopg [11] n (fun gg i wx => ∃ k, k + gg = n ∧ i = .int .i64 (k : Nat) ∧ Hid (Buf B b (l ++ sumT Ts k) wx) ∧ Below B w' wx ∧ Kept b w' wx)
  case atStart => exact ⟨0, by omega, rfl, Lib.hid (by simpa [sumT] using HBW.out), Below.refl _ _, Lib.OthersKept.refl _ _ _⟩
  case round =>
    obtain ⟨k, hk, rfl, HB5, hl5, hk5⟩ := hrel
    by_cases hlt : k < n
    · have hc := HR.out wr hl5 k hlt
      have hlk := HLN.out (k + 1) hlt
      simp only [sumT, List.length_append] at hlk
      obtain ⟨t, q, f, hv, hm, hen, hcall⟩ := HPR.out k hlt wr _ hl5 HB5.out (by simp only [List.length_append]; omega) (HNL.out k (by omega))
      rw [hv] at hc
      have HC := Lib.hid hcall
      clear hcall hv
      unfold Enters at hen
      go_wp2_with ((with_reducible refine HC.out.mono ?_); rintro e w6 ⟨rfl, hb6, hl6, hk6⟩)
      go_roundg (gk - 1)
      case measure => omega
      case rel => exact ⟨k + 1, by omega, by go_num, Lib.hid (by rw [List.append_assoc] at hb6; exact hb6), hl5.trans hl6, hk5.trans hk6⟩
    · have hkn : k = n := by omega
      subst hkn
      go_wp2_with (fail)
      go_end0
      exact ⟨rfl, HB5.out, hl5, hk5⟩
theorem Text_prints {pre : List UInt8 → Prop} {p : Addr} {T : List UInt8} {lo hi : Nat} {w : World} (h : PrintsBy pre 95 p T lo hi w) : Prints pre T lo hi (.iface 75 (.pointer (some p))) w :=
  ⟨_, _, _, rfl, fun w' => by kernel_rfl, enters_of Tryz.func95 (by kernel_rfl) (by kernel_rfl), h⟩
set_option maxHeartbeats 4000000 in
set_option maxRecDepth 100000 in
theorem md_Quote_by (Ts : Nat → List UInt8) (n lo hi p : Nat) (m1 m2 s : Value) (w : World) (hp : w.heap[p]? = some (.cells #[m1, m2, s] 68 (0, 0))) (hlo : lo ≤ p) (hhi : p < hi) (hr : RowPrints NlEnd 45 Ts n lo hi s w) (hnl : ∀ i, i < n → NlT (Ts i)) :
    PrintsBy NlEnd 66 ⟨p, 0, none⟩ ([60, 98, 108, 111, 99, 107, 113, 117, 111, 116, 101, 62, 10] ++ (sumT Ts n ++ [60, 47, 98, 108, 111, 99, 107, 113, 117, 111, 116, 101, 62, 10])) lo hi w := by
  obtain ⟨a, c, vs, rfl, hn, hn1, hal, hah, hrow, hpr⟩ := hr
  intro w' B b l hag hB hBw hb hlen hpre
  have d0 : w'.cell? ⟨p, 2, none⟩ = some (.slice (some ⟨a, 0, none⟩) n c) := by rw [Lib.cell_of_heap ((hag p hlo hhi).trans hp)]; rfl
  have hrow' := hrow.of (hag a hal hah)
  have HR : Hid (∀ wx, Below B w' wx → ∀ k (h : k < n), wx.cell? ⟨a, k, none⟩ = some (vs[k]'(by omega))) := Lib.hid (fun wx hx k h => (hrow'.of (hx.block a (by omega))).cell k (by omega))
  have HPR : Hid (∀ k (h : k < n) wx L, Below B w' wx → Buf B b L wx → L.length + (Ts k).length ≤ 1000000 → NlEnd L → PrintCall (Ts k) B b L (vs[k]'(by omega)) wx) := Lib.hid (fun k h wx L hx hL hl hq => (hpr k (by omega)).call (fun j h1 h2 => (hx.block j (by omega)).trans (hag j h1 h2)) hB (Nat.le_trans hBw hx.size) hL hl hq)
  have HLN : Hid (∀ k, k ≤ n → (sumT Ts k).length ≤ (sumT Ts n).length) := Lib.hid (fun k h => sumT_mono Ts h)
  have HNL : Hid (∀ k, k ≤ n → NlEnd (l ++ [60, 98, 108, 111, 99, 107, 113, 117, 111, 116, 101, 62, 10] ++ sumT Ts k)) := Lib.hid (fun k h => nl_sum (nl_app l (show NlT [60, 98, 108, 111, 99, 107, 113, 117, 111, 116, 101, 62, 10] from rfl)) (fun i hi => hnl i (by omega)))
  clear hag hp hrow hrow' hpr hpre hnl
  simp only [List.length_append, List.length_cons, List.length_nil] at hlen
  have HBW := Lib.hid hb
  unfold Wrote
  clear hb
  go_enter Tryz.func66, Tryz.ntmps66
  go_wp2_with (go_at_call 68; refine (buf_string B b _ _ _ HBW.out hBw (by omega) (by decide)).mono ?_; rintro e w4 ⟨rfl, hb4, hl4, hk4⟩; have d1 := (hl4.cell (p := ⟨p, 2, none⟩) (by show p < B; omega)).trans d0; have HB4 := Lib.hid hb4; clear hb4)
  go_loopg [13] n (fun gg i wx => ∃ k, k + gg = n ∧ i = .int .i64 (k : Nat) ∧ Hid (Buf B b (l ++ [60, 98, 108, 111, 99, 107, 113, 117, 111, 116, 101, 62, 10] ++ sumT Ts k) wx) ∧ Below B w' wx ∧ Kept b w' wx)
  case atStart => exact ⟨0, by omega, rfl, Lib.hid (by simpa [sumT] using HB4.out), hl4, hk4⟩
  case round =>
    obtain ⟨k, hk, rfl, HB5, hl5, hk5⟩ := hrel
    by_cases hlt : k < n
    · have hc := HR.out wr hl5 k hlt
      have hlk := HLN.out (k + 1) hlt
      simp only [sumT, List.length_append] at hlk
      obtain ⟨t, q, f, hv, hm, hen, hcall⟩ := HPR.out k hlt wr _ hl5 HB5.out (by simp only [List.length_append, List.length_cons, List.length_nil]; omega) (HNL.out k (by omega))
      rw [hv] at hc
      have HC := Lib.hid hcall
      clear hcall hv
      unfold Enters at hen
      go_wp2_with ((with_reducible refine HC.out.mono ?_); rintro e w6 ⟨rfl, hb6, hl6, hk6⟩)
      go_roundg (gk - 1)
      case measure => omega
      case rel => exact ⟨k + 1, by omega, by go_num, Lib.hid (by rw [List.append_assoc] at hb6; exact hb6), hl5.trans hl6, hk5.trans hk6⟩
    · have hkn : k = n := by omega
      subst hkn
      go_wp2_with (go_at_call 68; refine (buf_string B b _ _ _ HB5.out (Nat.le_trans hBw hl5.size) (by simp only [List.length_append, List.length_cons, List.length_nil]; omega) (by decide)).mono ?_; rintro e w7 ⟨rfl, hb7, hl7, hk7⟩)
      go_end0
      exact ⟨rfl, by simpa [List.append_assoc] using hb7, hl5.trans hl7, hk5.trans hk7⟩
theorem Quote_prints {pre : List UInt8 → Prop} {p : Addr} {T : List UInt8} {lo hi : Nat} {w : World} (h : PrintsBy pre 66 p T lo hi w) : Prints pre T lo hi (.iface 66 (.pointer (some p))) w :=
  ⟨_, _, _, rfl, fun w' => by kernel_rfl, enters_of Tryz.func66 (by kernel_rfl) (by kernel_rfl), h⟩
set_option maxHeartbeats 4000000 in
set_option maxRecDepth 100000 in
theorem md_Document_by (Ts : Nat → List UInt8) (n lo hi p : Nat) (m1 m2 m3 s : Value) (w : World) (hp : w.heap[p]? = some (.cells #[m1, m2, s, m3] 65 (0, 0))) (hlo : lo ≤ p) (hhi : p < hi) (hr : RowPrints NlEnd 45 Ts n lo hi s w) (hnl : ∀ i, i < n → NlT (Ts i)) :
    PrintsBy NlEnd 64 ⟨p, 0, none⟩ (sumT Ts n) lo hi w := by
  obtain ⟨a, c, vs, rfl, hn, hn1, hal, hah, hrow, hpr⟩ := hr
  intro w' B b l hag hB hBw hb hlen hpre
  have d0 : w'.cell? ⟨p, 2, none⟩ = some (.slice (some ⟨a, 0, none⟩) n c) := by rw [Lib.cell_of_heap ((hag p hlo hhi).trans hp)]; rfl
  have hrow' := hrow.of (hag a hal hah)
  have HR : Hid (∀ wx, Below B w' wx → ∀ k (h : k < n), wx.cell? ⟨a, k, none⟩ = some (vs[k]'(by omega))) := Lib.hid (fun wx hx k h => (hrow'.of (hx.block a (by omega))).cell k (by omega))
  have HPR : Hid (∀ k (h : k < n) wx L, Below B w' wx → Buf B b L wx → L.length + (Ts k).length ≤ 1000000 → NlEnd L → PrintCall (Ts k) B b L (vs[k]'(by omega)) wx) := Lib.hid (fun k h wx L hx hL hl hq => (hpr k (by omega)).call (fun j h1 h2 => (hx.block j (by omega)).trans (hag j h1 h2)) hB (Nat.le_trans hBw hx.size) hL hl hq)
  have HLN : Hid (∀ k, k ≤ n → (sumT Ts k).length ≤ (sumT Ts n).length) := Lib.hid (fun k h => sumT_mono Ts h)
  have HNL : Hid (∀ k, k ≤ n → NlEnd (l ++ sumT Ts k)) := Lib.hid (fun k h => nl_sum (hpre) (fun i hi => hnl i (by omega)))
  clear hag hp hrow hrow' hpr hpre hnl
  have HBW := Lib.hid hb
  unfold Wrote
  clear hb
  go_enter Tryz.func64, Tryz.ntmps64
  go_wp2_with (fail)
  go_loopg [11] n (fun gg i wx => ∃ k, k + gg = n ∧ i = .int .i64 (k : Nat) ∧ Hid (Buf B b (l ++ sumT Ts k) wx) ∧ Below B w' wx ∧ Kept b w' wx)
  case atStart => exact ⟨0, by omega, rfl, Lib.hid (by simpa [sumT] using HBW.out), Below.refl _ _, Lib.OthersKept.refl _ _ _⟩
  case round =>
    obtain ⟨k, hk, rfl, HB5, hl5, hk5⟩ := hrel
    by_cases hlt : k < n
    · have hc := HR.out wr hl5 k hlt
      have hlk := HLN.out (k + 1) hlt
      simp only [sumT, List.length_append] at hlk
      obtain ⟨t, q, f, hv, hm, hen, hcall⟩ := HPR.out k hlt wr _ hl5 HB5.out (by simp only [List.length_append]; omega) (HNL.out k (by omega))
      rw [hv] at hc
      have HC := Lib.hid hcall
      clear hcall hv
      unfold Enters at hen
      go_wp2_with ((with_reducible refine HC.out.mono ?_); rintro e w6 ⟨rfl, hb6, hl6, hk6⟩)
      go_roundg (gk - 1)
      case measure => omega
      case rel => exact ⟨k + 1, by omega, by go_num, Lib.hid (by rw [List.append_assoc] at hb6; exact hb6), hl5.trans hl6, hk5.trans hk6⟩
    · have hkn : k = n := by omega
      subst hkn
      go_wp2_with (fail)
      go_end0
      exact ⟨rfl, HB5.out, hl5, hk5⟩
theorem Document_prints {pre : List UInt8 → Prop} {p : Addr} {T : List UInt8} {lo hi : Nat} {w : World} (h : PrintsBy pre 64 p T lo hi w) : Prints pre T lo hi (.iface 59 (.pointer (some p))) w :=
  ⟨_, _, _, rfl, fun w' => by kernel_rfl, enters_of Tryz.func64 (by kernel_rfl) (by kernel_rfl), h⟩
end Go.Proofs.YtnocllocnoodnaaGreatDoor
