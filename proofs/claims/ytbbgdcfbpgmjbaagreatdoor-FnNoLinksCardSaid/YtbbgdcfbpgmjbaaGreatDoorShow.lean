/- HTML of three inlines: a plain text, a link of a plain text, a plain text. -/
import Derived.Test.YtbbgdcfbpgmjbaaGreatDoorPrintLink
namespace Go.Proofs.YtbbgdcfbpgmjbaaGreatDoor
open Go.RowKit
/-- three inlines lie in block a: a plain text in p, a link in k, a plain text in q -/
structure ThreeIn (s url text t : ByteArray) (a p k g h q : Nat) (w : World) : Prop where
  row : RowAt 34 a [.iface 51 (.pointer (some ⟨p, 0, none⟩)), .iface 69 (.pointer (some ⟨k, 0, none⟩)), .iface 51 (.pointer (some ⟨q, 0, none⟩))] w
  one : PlainIn s p w
  two : LinkIn url text k g h w
  three : PlainIn t q w
theorem LinkIn.lt {url text : ByteArray} {k g h : Nat} {w : World} (x : LinkIn url text k g h w) : k < w.heap.size ∧ g < w.heap.size ∧ h < w.heap.size := by
  obtain ⟨⟨cap, f, h1⟩, h2, h3⟩ := x
  exact ⟨(Array.getElem?_eq_some_iff.1 h1).1, h2.lt, h3.lt⟩
theorem ThreeIn.kept {s url text t : ByteArray} {a p k g h q b : Nat} {w w' : World} (x : ThreeIn s url text t a p k g h q w) (hb : w.heap.size ≤ b) {wb : World} (hx : ThreeIn s url text t a p k g h q wb) (hk : Kept b wb w') : ThreeIn s url text t a p k g h q w' := by
  have h1 := x.row.lt; have h2 := x.one.lt; have h3 := x.two.lt; have h4 := x.three.lt
  exact ⟨hx.row.kept (by decide) (by omega) hk, hx.one.kept (by omega) hk, hx.two.kept (by omega) (by omega) (by omega) hk, hx.three.kept (by omega) hk⟩
theorem ThreeIn.cells {s url text t : ByteArray} {a p k g h q : Nat} {w : World} (x : ThreeIn s url text t a p k g h q w) :
    w.cell? ⟨a, 0, none⟩ = some (.iface 51 (.pointer (some ⟨p, 0, none⟩))) ∧ w.cell? ⟨a, 1, none⟩ = some (.iface 69 (.pointer (some ⟨k, 0, none⟩))) ∧ w.cell? ⟨a, 2, none⟩ = some (.iface 51 (.pointer (some ⟨q, 0, none⟩))) :=
  ⟨x.row.cell 0 (by simp), x.row.cell 1 (by simp), x.row.cell 2 (by simp)⟩
/-- the HTML of the first n of them -/
def threeH (s url text t : ByteArray) (n : Nat) : List UInt8 := (if 0 < n then escP htmlK htmlE s.data.toList else []) ++ (if 1 < n then linkH url text else []) ++ (if 2 < n then escP htmlK htmlE t.data.toList else [])
/-- .. of bounded length -/
theorem threeH_len (s url text t : ByteArray) (n : Nat) (hs : s.size ≤ 1000) (hu : url.size ≤ 1000) (hx : text.size ≤ 1000) (ht : t.size ≤ 1000) : (threeH s url text t n).length ≤ 50000 := by
  have h1 := escP_len (K := htmlK) (E := htmlE) (n := 6) (by omega) (fun c _ => htmlE_len c) s.data.toList
  have h2 := escP_len (K := htmlK) (E := htmlE) (n := 6) (by omega) (fun c _ => htmlE_len c) t.data.toList
  have h3 := escP_len (K := htmlK) (E := htmlE) (n := 6) (by omega) (fun c _ => htmlE_len c) text.data.toList
  have h4 := escP_len (K := linkK) (E := linkE) (n := 5) (by omega) (fun c _ => linkE_len c) url.data.toList
  have h5 : (linkH url text).length ≤ 20000 := by
    unfold linkH
    simp only [List.length_append, List.length_cons, List.length_nil]
    simp at h3 h4
    omega
  unfold threeH
  simp only [List.length_append]
  simp at h1 h2
  split <;> split <;> split <;> simp <;> omega
/-- the call tells this text -/
def Told (m : List UInt8) (w : World) (e : Ending) (w' : World) : Prop := e = .returned (.string ⟨m.toArray⟩) ∧ Below w.heap.size w w'
set_option maxHeartbeats 4000000 in
theorem md_ZZInlineHTML (s url text t : ByteArray) (a c p k g h q : Nat) (w : World) (hx : ThreeIn s url text t a p k g h q w) (hs : s.size ≤ 1000) (hu : url.size ≤ 1000) (hxt : text.size ≤ 1000) (ht : t.size ≤ 1000) :
    Calls Tryz.prog 10 #[.slice (some ⟨a, 0, none⟩) 3 c] w (Told (threeH s url text t 3) w) := by
  have hb0 : Buf w.heap.size w.heap.size (threeH s url text t 0) (w.alloc (.cells #[.slice none 0 0, .int .i64 0, .int .i8 0] 46)) := Lib.fresh_isBuffer _ _ w
  have hl0 : Below w.heap.size w (w.alloc (.cells #[.slice none 0 0, .int .i64 0, .int .i8 0] 46)) := (Below.refl _ _).alloc (Nat.le_refl _) _
  have hx0 : ThreeIn s url text t a p k g h q (w.alloc (.cells #[.slice none 0 0, .int .i64 0, .int .i8 0] 46)) := ⟨hx.row.below hx.row.lt hl0, by have := hx.one; unfold PlainIn at *; rw [hl0.block p hx.one.lt]; exact this, ⟨by obtain ⟨cap, f, h1⟩ := hx.two.link; exact ⟨cap, f, by rw [hl0.block k hx.two.lt.1]; exact h1⟩, hx.two.kid.below hx.two.lt.2.1 hl0, by have := hx.two.text; unfold PlainIn at *; rw [hl0.block h hx.two.lt.2.2]; exact this⟩, by have := hx.three; unfold PlainIn at *; rw [hl0.block q hx.three.lt]; exact this⟩
  have HK : Hid (∀ wb w', ThreeIn s url text t a p k g h q wb → Kept w.heap.size wb w' → ThreeIn s url text t a p k g h q w') := Lib.hid (fun wb w' h1 h2 => hx.kept (Nat.le_refl _) h1 h2)
  have hkl := hx.two.lt
  have hal := hx.row.lt
  have hpl := hx.one.lt
  have hql := hx.three.lt
  have HB0 := Lib.hid hb0
  have HX0 := Lib.hid hx0
  have HLEN := Lib.hid (fun n => threeH_len s url text t n hs hu hxt ht)
  have HN0 : Hid (∀ l, threeH s url text t 0 ++ l = l) := Lib.hid (fun l => by simp [threeH])
  have HN1 : Hid (threeH s url text t 0 ++ escP htmlK htmlE s.data.toList = threeH s url text t 1) := Lib.hid (by simp [threeH])
  have HN2 : Hid (threeH s url text t 1 ++ linkH url text = threeH s url text t 2) := Lib.hid (by simp [threeH])
  have HN3 : Hid (threeH s url text t 2 ++ escP htmlK htmlE t.data.toList = threeH s url text t 3) := Lib.hid (by simp [threeH])
  have hm1 : ∀ (a : Addr) (w : World), (method 315 51 (.pointer (some a)) "PrintHTML").run Tryz.prog w = .ok (57, .pointer (some a)) w := fun _ _ => by kernel_rfl
  have hm2 : ∀ (a : Addr) (w : World), (method 315 69 (.pointer (some a)) "PrintHTML").run Tryz.prog w = .ok (96, .pointer (some a)) w := fun _ _ => by kernel_rfl
  have HP := Lib.hid (fun t g l w' h1 h2 h3 h4 h5 => md_Plain_PrintHTML t w.heap.size w.heap.size g l w' h1 h2 h3 h4 h5)
  have HL := Lib.hid (fun l w' h1 h2 h3 h4 => md_Link_PrintHTML url text w.heap.size w.heap.size k g h l w' h1 h2 h3 (by omega) (by omega) (by omega) h4 hu hxt)
  unfold Wrote at HP HL
  unfold Told
  clear hb0 hx0 hx
  go_enter Tryz.func10, Tryz.ntmps10
  go_wp2_with (fail)
  go_loopg [8] 3 (fun gg i wx => ((gg = 3 ∧ i = .int .i64 0 ∧ Hid (Buf w.heap.size w.heap.size (threeH s url text t 0) wx)) ∨ (gg = 2 ∧ i = .int .i64 1 ∧ Hid (Buf w.heap.size w.heap.size (threeH s url text t 1) wx)) ∨ (gg = 1 ∧ i = .int .i64 2 ∧ Hid (Buf w.heap.size w.heap.size (threeH s url text t 2) wx)) ∨ (gg = 0 ∧ i = .int .i64 3 ∧ Hid (Buf w.heap.size w.heap.size (threeH s url text t 3) wx))) ∧ Hid (ThreeIn s url text t a p k g h q wx) ∧ Below w.heap.size w wx)
  case atStart => exact ⟨.inl ⟨rfl, rfl, HB0⟩, HX0, hl0⟩
  case round =>
    obtain ⟨hrel, HX, hl⟩ := hrel
    clear HB0 HX0 hl0
    have hBr : w.heap.size ≤ wr.heap.size := hl.size
    obtain ⟨hc0, hc1, hc2⟩ := HX.out.cells
    rcases hrel with ⟨rfl, rfl, HB⟩ | ⟨rfl, rfl, HB⟩ | ⟨rfl, rfl, HB⟩ | ⟨rfl, rfl, HB⟩
    · have HPP := Lib.hid (HP.out s p _ wr HB.out hBr HX.out.one (Nat.le_trans (HLEN.out 0) (by decide)) (by omega))
      clear hc1 hc2
      go_wp2_with (go_at_call 57; refine HPP.out.mono ?_; rintro e w6 ⟨rfl, hb6, hl6, hk6⟩)
      go_roundg 2
      case measure => omega
      case rel => exact ⟨.inr (.inl ⟨rfl, rfl, Lib.hid (HN1.out ▸ hb6)⟩), Lib.hid (HK.out _ _ HX.out hk6), hl.trans hl6⟩
    · have HPP := Lib.hid (HL.out _ wr HB.out hBr HX.out.two (Nat.le_trans (HLEN.out 1) (by decide)))
      clear hc0 hc2
      go_wp2_with (go_at_call 96; refine HPP.out.mono ?_; rintro e w6 ⟨rfl, hb6, hl6, hk6⟩)
      go_roundg 1
      case measure => omega
      case rel => exact ⟨.inr (.inr (.inl ⟨rfl, rfl, Lib.hid (HN2.out ▸ hb6)⟩)), Lib.hid (HK.out _ _ HX.out hk6), hl.trans hl6⟩
    · have HPP := Lib.hid (HP.out t q _ wr HB.out hBr HX.out.three (Nat.le_trans (HLEN.out 2) (by decide)) (by omega))
      clear hc0 hc1
      go_wp2_with (go_at_call 57; refine HPP.out.mono ?_; rintro e w6 ⟨rfl, hb6, hl6, hk6⟩)
      go_roundg 0
      case measure => omega
      case rel => exact ⟨.inr (.inr (.inr ⟨rfl, rfl, Lib.hid (HN3.out ▸ hb6)⟩)), Lib.hid (HK.out _ _ HX.out hk6), hl.trans hl6⟩
    · clear hc0 hc1 hc2
      go_wp2_with (go_at_call 16; refine (buf_text _ _ _ _ HB.out).mono ?_; rintro e w2 ⟨rfl, n, rfl⟩)
      go_ret
      exact ⟨rfl, bel_drewP hl n⟩
end Go.Proofs.YtbbgdcfbpgmjbaaGreatDoor
