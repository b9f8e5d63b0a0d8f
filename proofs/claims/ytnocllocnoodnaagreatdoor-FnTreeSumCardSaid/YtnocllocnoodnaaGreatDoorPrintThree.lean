/- PrintHTML of what holds a text, or a place of inlines. -/
import Derived.Test.YtnocllocnoodnaaGreatDoorPrintRows
import Derived.Deep.QuietTactic
import Derived.BigQuiet
import Derived.Deep.DeepCutAuto
import Derived.Deep.LoopGhost
namespace Go.Proofs.YtnocllocnoodnaaGreatDoor
open Go.RowKit
/-- from the contract of the function on a type to the interface value -/
theorem SoftBreak_by (p : Addr) (lo hi : Nat) (w : World) : PrintsBy Any 121 p [10] lo hi w := by
  intro w' B b l hag hB hBw hb hlen hpre
  simp only [List.length_cons, List.length_nil] at hlen
  have HBW := Lib.hid hb
  clear hb hag hpre
  unfold Wrote
  go_enter Tryz.func121, Tryz.ntmps121
  go_wp2_with (go_at_call 68; refine (buf_string B b _ _ _ HBW.out hBw (by omega) (by decide)).mono ?_; rintro e w4 ⟨rfl, hb4, hl4, hk4⟩)
  go_end0
  exact ⟨rfl, by simpa using hb4, hl4, hk4⟩
theorem SoftBreak_prints {pre : List UInt8 → Prop} {p : Addr} {T : List UInt8} {lo hi : Nat} {w : World} (h : PrintsBy pre 121 p T lo hi w) : Prints pre T lo hi (.iface 139 (.pointer (some p))) w :=
  ⟨_, _, _, rfl, fun w' => by kernel_rfl, enters_of Tryz.func121 (by kernel_rfl) (by kernel_rfl), h⟩
theorem ThematicBreak_by (p : Addr) (lo hi : Nat) (w : World) : PrintsBy Any 116 p [60, 104, 114, 32, 47, 62, 10] lo hi w := by
  intro w' B b l hag hB hBw hb hlen hpre
  simp only [List.length_cons, List.length_nil] at hlen
  have HBW := Lib.hid hb
  clear hb hag hpre
  unfold Wrote
  go_enter Tryz.func116, Tryz.ntmps116
  go_wp2_with (go_at_call 68; refine (buf_string B b _ _ _ HBW.out hBw (by omega) (by decide)).mono ?_; rintro e w4 ⟨rfl, hb4, hl4, hk4⟩)
  go_end0
  exact ⟨rfl, by simpa using hb4, hl4, hk4⟩
theorem ThematicBreak_prints {pre : List UInt8 → Prop} {p : Addr} {T : List UInt8} {lo hi : Nat} {w : World} (h : PrintsBy pre 116 p T lo hi w) : Prints pre T lo hi (.iface 121 (.pointer (some p))) w :=
  ⟨_, _, _, rfl, fun w' => by kernel_rfl, enters_of Tryz.func116 (by kernel_rfl) (by kernel_rfl), h⟩
theorem Plain_by (t : ByteArray) (g lo hi : Nat) (w : World) (hg : PlainIn t g w) (hlo : lo ≤ g) (hhi : g < hi) (ht : t.size ≤ 1000) : PrintsBy Any 165 ⟨g, 0, none⟩ (escP htmlK htmlE t.data.toList) lo hi w := by
  intro w' B b l hag hB hBw hb hlen hpre
  have hg' : PlainIn t g w' := by unfold PlainIn at *; rw [hag g hlo hhi]; exact hg
  exact md_Plain_PrintHTML t B b g l w' hb hBw hg' (by omega) (by omega)
theorem Plain_prints {pre : List UInt8 → Prop} {p : Addr} {T : List UInt8} {lo hi : Nat} {w : World} (h : PrintsBy pre 165 p T lo hi w) : Prints pre T lo hi (.iface 171 (.pointer (some p))) w :=
  ⟨_, _, _, rfl, fun w' => by kernel_rfl, enters_of Tryz.func165 (by kernel_rfl) (by kernel_rfl), h⟩
theorem Paragraph_by (T : List UInt8) (q : Addr) (p lo hi : Nat) (m1 m2 : Value) (w : World) (hp : w.heap[p]? = some (.cells #[m1, m2, .pointer (some q)] 81 (0, 0))) (hlo : lo ≤ p) (hhi : p < hi) (ht : PrintsBy Any 95 q T lo hi w) :
    PrintsBy Any 98 ⟨p, 0, none⟩ ([60, 112, 62] ++ (T ++ [60, 47, 112, 62, 10])) lo hi w := by
  intro w' B b l hag hB hBw hb hlen hpre
  simp only [List.length_append, List.length_cons, List.length_nil] at hlen
  have d0 : w'.cell? ⟨p, 2, none⟩ = some (.pointer (some q)) := by rw [Lib.cell_of_heap ((hag p hlo hhi).trans hp)]; rfl
  have HT : Hid (∀ wx L, Below B w' wx → Buf B b L wx → L.length + T.length ≤ 1000000 → Calls Tryz.prog 95 #[.pointer (some q), .pointer (some ⟨b, 0, none⟩)] wx (Wrote B b L T wx)) := Lib.hid (fun wx L hx hL hl => ht wx B b L (fun j h1 h2 => (hx.block j (by omega)).trans (hag j h1 h2)) hB (Nat.le_trans hBw hx.size) hL hl trivial)
  have HBW := Lib.hid hb
  clear hb hag hpre ht hp
  unfold Wrote at *
  go_enter Tryz.func98, Tryz.ntmps98
  go_wp2_with (first
    | (go_at_call 95; refine (HT.out _ _ hl4 HB4.out (by simp only [List.length_append, List.length_cons, List.length_nil]; omega)).mono ?_; rintro e w5 ⟨rfl, hb5, hl5, hk5⟩; have HB5 := Lib.hid hb5; have hl45 := hl4.trans hl5; have hk45 := hk4.trans hk5; clear hb5 hl4 hl5 hk4 hk5)
    | (go_at_call 68; refine (buf_string B b _ _ _ HB5.out (Nat.le_trans hBw hl45.size) (by simp only [List.length_append, List.length_cons, List.length_nil]; omega) (by decide)).mono ?_; rintro e w6 ⟨rfl, hb6, hl6, hk6⟩)
    | (go_at_call 68; refine (buf_string B b _ _ _ HBW.out hBw (by omega) (by decide)).mono ?_; rintro e w4 ⟨rfl, hb4, hl4, hk4⟩; have d1 := (hl4.cell (p := ⟨p, 2, none⟩) (by show p < B; omega)).trans d0; have HB4 := Lib.hid hb4; clear hb4))
  go_end0
  exact ⟨rfl, by simpa [List.append_assoc] using hb6, hl45.trans hl6, hk45.trans hk6⟩
theorem Paragraph_prints {pre : List UInt8 → Prop} {p : Addr} {T : List UInt8} {lo hi : Nat} {w : World} (h : PrintsBy pre 98 p T lo hi w) : Prints pre T lo hi (.iface 79 (.pointer (some p))) w :=
  ⟨_, _, _, rfl, fun w' => by kernel_rfl, enters_of Tryz.func98 (by kernel_rfl) (by kernel_rfl), h⟩
end Go.Proofs.YtnocllocnoodnaaGreatDoor
namespace Go.Proofs.YtnocllocnoodnaaGreatDoor
open Go.RowKit
theorem dig_len : ∀ i : Nat, i < 100 → (Lib.decDigits i).length ≤ 2 := by decide +kernel
/-- .. of a heading of level i -/
def headH (i : Nat) (T : List UInt8) : List UInt8 := ([60, 104] ++ Lib.decDigits i) ++ ([62] ++ (T ++ ([60, 47, 104] ++ Lib.decDigits i ++ [62, 10])))
set_option maxHeartbeats 4000000 in
theorem Heading_by (T : List UInt8) (i : Nat) (q : Addr) (p lo hi : Nat) (m1 m2 : Value) (w : World) (hp : w.heap[p]? = some (.cells #[m1, m2, .int .i64 i, .pointer (some q), .string ⟨#[]⟩] 78 (0, 0))) (hlo : lo ≤ p) (hhi : p < hi) (hi6 : i < 100) (ht : PrintsBy Any 95 q T lo hi w) :
    PrintsBy Any 90 ⟨p, 0, none⟩ (headH i T) lo hi w := by
  intro w' B b l hag hB hBw hb hlen hpre
  unfold headH at *
  have hdl := dig_len i hi6
  simp only [List.length_append, List.length_cons, List.length_nil] at hlen
  have hcell := fun j => Lib.cell_of_heap ((hag p hlo hhi).trans hp) j
  have HCL : Hid (∀ wx, Below B w' wx → wx.cell? ⟨p, 2, none⟩ = some (.int .i64 i) ∧ wx.cell? ⟨p, 3, none⟩ = some (.pointer (some q)) ∧ wx.cell? ⟨p, 4, none⟩ = some (.string ⟨#[]⟩)) := Lib.hid (fun wx hx => ⟨(hx.cell (p := ⟨p, 2, none⟩) (by show p < B; omega)).trans (by rw [hcell]; rfl), (hx.cell (p := ⟨p, 3, none⟩) (by show p < B; omega)).trans (by rw [hcell]; rfl), (hx.cell (p := ⟨p, 4, none⟩) (by show p < B; omega)).trans (by rw [hcell]; rfl)⟩)
  have HT : Hid (∀ wx L, Below B w' wx → Buf B b L wx → L.length + T.length ≤ 1000000 → Calls Tryz.prog 95 #[.pointer (some q), .pointer (some ⟨b, 0, none⟩)] wx (Wrote B b L T wx)) := Lib.hid (fun wx L hx hL hl => ht wx B b L (fun j h1 h2 => (hx.block j (by omega)).trans (hag j h1 h2)) hB (Nat.le_trans hBw hx.size) hL hl trivial)
  have HI := Lib.hid (fun w => Tryz.strconv_Itoa_small i hi6 w)
  have HBW := Lib.hid hb
  obtain ⟨c2, c3, c4⟩ := HCL.out w' (Below.refl _ _)
  clear hb hag hpre ht hp hcell c3 c4
  generalize Lib.decDigits i = D at *
  have hds : (⟨D.toArray⟩ : ByteArray).size ≤ 2 := by show D.toArray.size ≤ 2; simpa using hdl
  have hd1 : ((⟨#[60, 104]⟩ : ByteArray) ++ ⟨D.toArray⟩).size ≤ 100 := by rw [ByteArray.size_append]; show 2 + _ ≤ _; omega
  have hd2 : ((⟨#[60, 47, 104]⟩ : ByteArray) ++ ⟨D.toArray⟩ ++ ⟨#[62, 10]⟩).size ≤ 100 := by rw [ByteArray.size_append, ByteArray.size_append]; show 3 + _ + 2 ≤ _; omega
  have e1 : ((⟨#[60, 104]⟩ : ByteArray) ++ ⟨D.toArray⟩).data.toList = [60, 104] ++ D := by simp
  have e2 : ((⟨#[60, 47, 104]⟩ : ByteArray) ++ ⟨D.toArray⟩ ++ ⟨#[62, 10]⟩).data.toList = [60, 47, 104] ++ D ++ [62, 10] := by simp
  unfold Wrote at *
  have HE1 := Lib.hid e1; have HE2 := Lib.hid e2
  have HS1 := Lib.hid hd1; have HS2 := Lib.hid hd2
  clear e1 e2 hd1 hd2 hds
  go_enter Tryz.func90, Tryz.ntmps90
  go_wp2_with (first
    | (go_at_call 76; refine (HI.out _).mono ?_; rintro e w3 ⟨rfl, rfl⟩)
    | (go_at_call 94; refine (buf_byte B b _ 62 _ HB4.out (Nat.le_trans hBw hl4.size) (by simp only [List.length_append, List.length_cons, List.length_nil]; omega)).mono ?_; rintro e w5 ⟨rfl, hb5, hl5, hk5⟩; have HB5 := Lib.hid hb5; have hl45 := hl4.trans hl5; have hk45 := hk4.trans hk5; clear hb5 hl4 hl5 hk4 hk5 d2 d4; obtain ⟨f2, f3, f4⟩ := HCL.out _ hl45)
    | (go_at_call 95; refine (HT.out _ _ hl45 HB5.out (by simp only [List.length_append, List.length_cons, List.length_nil]; omega)).mono ?_; rintro e w6 ⟨rfl, hb6, hl6, hk6⟩; have HB6 := Lib.hid hb6; have hl46 := hl45.trans hl6; have hk46 := hk45.trans hk6; clear hb6 hl45 hl6 hk45 hk6 f2 f4 f3; obtain ⟨g2, g3, g4⟩ := HCL.out _ hl46; clear g3 g4)
    | (go_at_call 68; refine (buf_string B b _ _ _ HB6.out (Nat.le_trans hBw hl46.size) (by simp only [List.length_append, List.length_cons, List.length_nil]; omega) (Nat.le_trans HS2.out (by decide))).mono ?_; rintro e w7 ⟨rfl, hb7, hl7, hk7⟩; rw [HE2.out] at hb7)
    | (go_at_call 68; refine (buf_string B b _ _ _ HBW.out hBw (by omega) (Nat.le_trans HS1.out (by decide))).mono ?_; rintro e w4 ⟨rfl, hb4, hl4, hk4⟩; rw [HE1.out] at hb4; have HB4 := Lib.hid hb4; clear hb4 c2; obtain ⟨d2, d3, d4⟩ := HCL.out _ hl4; clear d3))
  go_end0
  exact ⟨rfl, by simpa [List.append_assoc] using hb7, hl46.trans hl7, hk46.trans hk7⟩
theorem Heading_prints {pre : List UInt8 → Prop} {p : Addr} {T : List UInt8} {lo hi : Nat} {w : World} (h : PrintsBy pre 90 p T lo hi w) : Prints pre T lo hi (.iface 74 (.pointer (some p))) w :=
  ⟨_, _, _, rfl, fun w' => by kernel_rfl, enters_of Tryz.func90 (by kernel_rfl) (by kernel_rfl), h⟩
/-- .. of a code span -/
def codeH (t : ByteArray) : List UInt8 := [60, 99, 111, 100, 101, 62] ++ (escP htmlK htmlE t.data.toList ++ [60, 47, 99, 111, 100, 101, 62])
set_option maxHeartbeats 4000000 in
theorem Code_by (t : ByteArray) (p lo hi : Nat) (w : World) (hp : w.heap[p]? = some (.cells #[.string t] 146 (0, 0))) (hlo : lo ≤ p) (hhi : p < hi) (ht : t.size ≤ 1000) : PrintsBy Any 129 ⟨p, 0, none⟩ (codeH t) lo hi w := by
  intro w' B b l hag hB hBw hb hlen hpre
  have hpl : p < w'.heap.size := by omega
  have c1 : w'.cell? ⟨p, 0, none⟩ = some (.string t) := by rw [Lib.cell_of_heap ((hag p hlo hhi).trans hp)]; rfl
  have c1' : (w'.alloc (.cells (pairCells htmlK htmlE) 9)).cell? ⟨p, 0, none⟩ = some (.string t) := by rw [World.cell?_alloc_lt _ _ _ hpl]; exact c1
  have HM := Lib.hid (fun w => md_htmlEscaper w)
  have HR := md_zzPairs_Replace htmlK htmlE (by decide +kernel) (fun c _ => Nat.le_trans (htmlE_len c) (by decide)) w'.heap.size t (w'.alloc (.cells (pairCells htmlK htmlE) 9)).drew (heap_alloc_new w' _) (by omega)
  have HRs : (⟨(escP htmlK htmlE t.data.toList).toArray⟩ : ByteArray).size ≤ 6000 := by
    have := escP_len (K := htmlK) (E := htmlE) (n := 6) (by omega) (fun c _ => htmlE_len c) t.data.toList
    show (escP htmlK htmlE t.data.toList).toArray.size ≤ _
    simp at this ⊢; omega
  have HA : Hid (Below B w' (w'.alloc (.cells (pairCells htmlK htmlE) 9)).drew ∧ Below w'.heap.size w' (w'.alloc (.cells (pairCells htmlK htmlE) 9)).drew) := Lib.hid ⟨((Below.refl _ _).alloc hBw _).drew, ((Below.refl _ _).alloc (Nat.le_refl _) _).drew⟩
  replace HR := Lib.hid HR
  have HB := Lib.hid hb
  unfold codeH at *
  unfold PairsMade at HM
  unfold Wrote
  clear hb hag hp hpre
  generalize hRR : (⟨(escP htmlK htmlE t.data.toList).toArray⟩ : ByteArray) = R at *
  have hRd : R.data.toList = escP htmlK htmlE t.data.toList := by rw [← hRR]
  rw [← hRd] at hlen ⊢
  clear hRR hRd
  generalize htmlK = K at *
  generalize htmlE = E at *
  simp only [List.length_append, List.length_cons, List.length_nil] at hlen
  have hRl : R.data.toList.length = R.size := by simp
  go_enter Tryz.func129, Tryz.ntmps129
  go_upto_region 0 with (fail)
  go_region_with (first
    | (go_at_call 105; refine (HM.out _).mono ?_; rintro e w1 ⟨rfl, rfl⟩)
    | (go_at_call 93; refine HR.out.mono ?_; rintro e w2 ⟨rfl, hl2⟩)
    | (go_at_call 68; refine (buf_string B b l _ _ ((HB.out.old HA.out.2).old hl2) (Nat.le_trans hBw (Nat.le_trans HA.out.2.size hl2.size)) (by omega) (by rw [ByteArray.size_append, ByteArray.size_append]; show 6 + R.size + 7 ≤ _; omega)).mono ?_; rintro e w3 ⟨rfl, hb3, hl3, hk3⟩))
  all_goals
    go_wp2
    go_end0
    exact ⟨rfl, by simpa [List.append_assoc] using hb3, (HA.out.1.trans (hl2.mono (Nat.le_trans hBw HA.out.2.size))).trans hl3, (Kept.below (Kept.below (Lib.OthersKept.refl _ _ _) HA.out.2) hl2).trans hk3⟩
theorem Code_prints {pre : List UInt8 → Prop} {p : Addr} {T : List UInt8} {lo hi : Nat} {w : World} (h : PrintsBy pre 129 p T lo hi w) : Prints pre T lo hi (.iface 144 (.pointer (some p))) w :=
  ⟨_, _, _, rfl, fun w' => by kernel_rfl, enters_of Tryz.func129 (by kernel_rfl) (by kernel_rfl), h⟩
end Go.Proofs.YtnocllocnoodnaaGreatDoor
namespace Go.Proofs.YtnocllocnoodnaaGreatDoor
open Go.RowKit
/-- .. of a link -/
def aH (url : ByteArray) (T : List UInt8) : List UInt8 := ([60, 97, 32, 104, 114, 101, 102, 61, 34] ++ escP linkK linkE url.data.toList ++ [34]) ++ ([62] ++ (T ++ [60, 47, 97, 62]))
set_option maxHeartbeats 4000000 in
set_option maxRecDepth 100000 in
theorem Link_by (url : ByteArray) (Ts : Nat → List UInt8) (n lo hi p : Nat) (s m1 m2 : Value) (w : World) (hp : w.heap[p]? = some (.cells #[s, .string url, .string ⟨#[]⟩, m1, m2] 112 (0, 0))) (hlo : lo ≤ p) (hhi : p < hi) (hr : RowPrints Any 135 Ts n lo hi s w) (hu : url.size ≤ 1000) :
    PrintsBy Any 114 ⟨p, 0, none⟩ (aH url (sumT Ts n)) lo hi w := by
  obtain ⟨a, c, vs, rfl, hn, hn1, hal, hah, hrow, hpr⟩ := hr
  intro w' B b l hag hB hBw hb hlen hpre
  have hpl : p < w'.heap.size := by omega
  have hcell := fun j => Lib.cell_of_heap ((hag p hlo hhi).trans hp) j
  have HCL : Hid (∀ wx, Below B w' wx → wx.cell? ⟨p, 0, none⟩ = some (.slice (some ⟨a, 0, none⟩) n c) ∧ wx.cell? ⟨p, 2, none⟩ = some (.string ⟨#[]⟩)) := Lib.hid (fun wx hx => ⟨(hx.cell (p := ⟨p, 0, none⟩) (by show p < B; omega)).trans (by rw [hcell]; rfl), (hx.cell (p := ⟨p, 2, none⟩) (by show p < B; omega)).trans (by rw [hcell]; rfl)⟩)
  have c1 : w'.cell? ⟨p, 1, none⟩ = some (.string url) := by rw [hcell]; rfl
  have c1' : (w'.alloc (.cells (pairCells linkK linkE) 9)).cell? ⟨p, 1, none⟩ = some (.string url) := by rw [World.cell?_alloc_lt _ _ _ hpl]; exact c1
  have hrow' := hrow.of (hag a hal hah)
  have HRC : Hid (∀ wx, Below B w' wx → ∀ k (h : k < n), wx.cell? ⟨a, k, none⟩ = some (vs[k]'(by omega))) := Lib.hid (fun wx hx k h => (hrow'.of (hx.block a (by omega))).cell k (by omega))
  have HPR : Hid (∀ k (h : k < n) wx L, Below B w' wx → Buf B b L wx → L.length + (Ts k).length ≤ 1000000 → PrintCall (Ts k) B b L (vs[k]'(by omega)) wx) := Lib.hid (fun k h wx L hx hL hl => (hpr k (by omega)).call (fun j h1 h2 => (hx.block j (by omega)).trans (hag j h1 h2)) hB (Nat.le_trans hBw hx.size) hL hl trivial)
  have HLN : Hid (∀ k, k ≤ n → (sumT Ts k).length ≤ (sumT Ts n).length) := Lib.hid (fun k h => sumT_mono Ts h)
  have HM := Lib.hid (fun w => md_htmlLinkEscaper w)
  have HR := md_zzPairs_Replace linkK linkE (by decide +kernel) (fun c _ => Nat.le_trans (linkE_len c) (by decide)) w'.heap.size url (w'.alloc (.cells (pairCells linkK linkE) 9)).drew (heap_alloc_new w' _) (by omega)
  have HA : Hid (Below B w' (w'.alloc (.cells (pairCells linkK linkE) 9)).drew ∧ Below w'.heap.size w' (w'.alloc (.cells (pairCells linkK linkE) 9)).drew) := Lib.hid ⟨((Below.refl _ _).alloc hBw _).drew, ((Below.refl _ _).alloc (Nat.le_refl _) _).drew⟩
  replace HR := Lib.hid HR
  have HRs : (⟨(escP linkK linkE url.data.toList).toArray⟩ : ByteArray).size ≤ 5000 := by
    have := escP_len (K := linkK) (E := linkE) (n := 5) (by omega) (fun c _ => linkE_len c) url.data.toList
    show (escP linkK linkE url.data.toList).toArray.size ≤ _
    simp at this ⊢; omega
  have HB := Lib.hid hb
  unfold aH at *
  unfold PairsMade at HM
  unfold Wrote
  clear hb hag hp hpre hrow hrow' hpr hcell
  generalize hRR : (⟨(escP linkK linkE url.data.toList).toArray⟩ : ByteArray) = R at *
  have hRd : R.data.toList = escP linkK linkE url.data.toList := by rw [← hRR]
  rw [← hRd] at hlen ⊢
  clear hRR hRd
  generalize linkK = K at *
  generalize linkE = E at *
  simp only [List.length_append, List.length_cons, List.length_nil] at hlen
  have hRl : R.data.toList.length = R.size := by simp
  go_enter Tryz.func114, Tryz.ntmps114
  go_upto_region 0 with (fail)
  go_cut [15] from 6 to 15 (fun _ wx => Hid (Buf B b (l ++ ([60, 97, 32, 104, 114, 101, 102, 61, 34] ++ R.data.toList ++ [34])) wx) ∧ Below B w' wx ∧ Kept b w' wx)
  case first =>
    go_region_with (first
      | (go_at_call 115; refine (HM.out _).mono ?_; rintro e w1 ⟨rfl, rfl⟩)
      | (go_at_call 93; refine HR.out.mono ?_; rintro e w2 ⟨rfl, hl2⟩)
      | (go_at_call 68; refine (buf_string B b l _ _ ((HB.out.old HA.out.2).old hl2) (Nat.le_trans hBw (Nat.le_trans HA.out.2.size hl2.size)) (by omega) (by rw [ByteArray.size_append, ByteArray.size_append]; show 9 + R.size + 1 ≤ _; omega)).mono ?_; rintro e w3 ⟨rfl, hb3, hl3, hk3⟩))
    all_goals
      go_wp2
      go_meet
      refine ⟨Lib.hid (by simpa using hb3), (HA.out.1.trans (hl2.mono (Nat.le_trans hBw HA.out.2.size))).trans hl3, (Kept.below (Kept.below (Lib.OthersKept.refl _ _ _) HA.out.2) hl2).trans hk3⟩
  case rest =>
    obtain ⟨HB3, hl3, hk3⟩ := hcut
    clear HM HR HA HB c1 c1'
    obtain ⟨c0, c2⟩ := HCL.out _ hl3
    clear c0
    go_wp2_with (go_at_call 68; refine (buf_string B b _ _ _ HB3.out (Nat.le_trans hBw hl3.size) (by simp only [List.length_append, List.length_cons, List.length_nil]; omega) (by decide)).mono ?_; rintro e w4 ⟨rfl, hb4, hl4, hk4⟩; have HB4 := Lib.hid hb4; have hl34 := hl3.trans hl4; have hk34 := hk3.trans hk4; clear hb4 c2 hl3 hl4 hk3 hk4; obtain ⟨d0, d2⟩ := HCL.out _ hl34; clear d2)
    go_loopg [38] n (fun gg i wx => ∃ k, k + gg = n ∧ i = .int .i64 (k : Nat) ∧ Hid (Buf B b (l ++ ([60, 97, 32, 104, 114, 101, 102, 61, 34] ++ R.data.toList ++ [34]) ++ [62] ++ sumT Ts k) wx) ∧ Below B w' wx ∧ Kept b w' wx)
    case atStart => exact ⟨0, by omega, rfl, Lib.hid (by simpa [sumT] using HB4.out), hl34, hk34⟩
    case round =>
      obtain ⟨k, hk, rfl, HB5, hl5, hk5⟩ := hrel
      by_cases hlt : k < n
      · have hc := HRC.out wr hl5 k hlt
        have hlk := HLN.out (k + 1) hlt
        simp only [sumT, List.length_append] at hlk
        obtain ⟨t, q, f, hv, hm, hen, hcall⟩ := HPR.out k hlt wr _ hl5 HB5.out (by simp only [List.length_append, List.length_cons, List.length_nil]; omega)
        rw [hv] at hc
        have HC := Lib.hid hcall
        clear hcall hv
        unfold Enters at hen
        go_wp2_with ((with_reducible refine HC.out.mono ?_); rintro e w6 ⟨rfl, hb6, hl6, hk6⟩)
        go_roundg (gk - 1)
        case measure => omega
        case rel => exact ⟨k + 1, by omega, by go_num, Lib.hid (by rw [List.append_assoc] at hb6; exact hb6), hl5.trans hl6, hk5.trans hk6⟩
      · have hkn : k = n := by omega
        subst hkn
        go_wp2_with (go_at_call 68; refine (buf_string B b _ _ _ HB5.out (Nat.le_trans hBw hl5.size) (by simp only [List.length_append, List.length_cons, List.length_nil]; omega) (by decide)).mono ?_; rintro e w7 ⟨rfl, hb7, hl7, hk7⟩)
        go_end0
        exact ⟨rfl, by simpa [List.append_assoc] using hb7, hl5.trans hl7, hk5.trans hk7⟩
theorem Link_prints {pre : List UInt8 → Prop} {p : Addr} {T : List UInt8} {lo hi : Nat} {w : World} (h : PrintsBy pre 114 p T lo hi w) : Prints pre T lo hi (.iface 108 (.pointer (some p))) w :=
  ⟨_, _, _, rfl, fun w' => by kernel_rfl, enters_of Tryz.func114 (by kernel_rfl) (by kernel_rfl), h⟩
end Go.Proofs.YtnocllocnoodnaaGreatDoor
