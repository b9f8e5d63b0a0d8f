/- The package's links of a plain text: one link in a calm text that ends in an address. -/
import Derived.Test.YtbbgdcfbpgmjbaaGreatDoorPlainLink
import Derived.Test.YtbbgdcfbpgmjbaaGreatDoorThree
namespace Go.Proofs.YtbbgdcfbpgmjbaaGreatDoor
open Go.RowKit
/-- .. as 'Made.step', of an element that stands already -/
theorem Made.step2 {α : Type} {Q : Nat → Nat → Nat → α → World → Prop} (hS : Sayable Q) {cl : α → List Value} {e : TypeId} {sz B : Nat} {css : List α} {o : Value} {w w3 : World} {c : α} {ob : Obj} {g n' cap lo hi : Nat} {xs' : List Value}
    (hm : Made Q cl e sz B css o w) (hlo : B ≤ lo) (hhi : hi ≤ w.heap.size) (hq : Q css.length lo hi c w) (hne : ∀ g, o.ownBlock = some g → g < lo ∨ hi ≤ g)
    (hown : w3.ownsRow B e sz (.slice (some ⟨g, 0, none⟩) n' cap) n' xs') (hn : n' = css.length + 1) (hx : xs' = css.flatMap cl ++ cl c)
    (hgrow : (w.alloc ob).grownBy w3 o.ownBlock) (hat : o.ownBlock = some g ∨ g = w.heap.size + 1) :
    Made Q cl e sz B (css ++ [c]) (.slice (some ⟨g, 0, none⟩) n' cap) w3 := by
  subst hn hx
  have hs3 := hgrow.size
  have hal : (w.alloc ob).heap.size = w.heap.size + 1 := by simp
  rw [hal] at hs3
  refine ⟨by simpa using hown, ?_⟩
  intro j hj
  have hstep : ∀ b, b < w.heap.size → some b ≠ o.ownBlock → w3.heap[b]? = w.heap[b]? := by
    intro b h1 h2
    rw [hgrow.block b (by simp; omega) h2]
    exact heap_alloc_old w _ h1
  have fin : ∀ lo hi, hi ≤ w.heap.size → (∀ g, o.ownBlock = some g → g < lo ∨ hi ≤ g) → ∀ g', (Value.slice (some ⟨g, 0, none⟩) (css.length + 1) cap).ownBlock = some g' → g' < lo ∨ hi ≤ g' := by
    intro lo hi hh hne g' hg'
    have : g' = g := by simpa [Value.ownBlock] using hg'.symm
    subst this
    rcases hat with h5 | h5
    · exact hne _ h5
    · right; omega
  have kp : ∀ lo hi, hi ≤ w.heap.size → (∀ g, o.ownBlock = some g → g < lo ∨ hi ≤ g) → ∀ b, lo ≤ b → b < hi → w3.heap[b]? = w.heap[b]? := by
    intro lo hi hh hne b hb1 hb2
    refine hstep b (by omega) ?_
    intro hx
    rcases hne b hx.symm with h5 | h5 <;> omega
  rcases Nat.lt_or_ge j css.length with h | h
  · obtain ⟨lo', hi', h1, h2, h3, h4⟩ := hm.2 j h
    refine ⟨lo', hi', h1, by omega, ?_, fin lo' hi' h2 h4⟩
    rw [List.getElem_append_left h]
    exact hS.keep _ _ _ _ _ _ h3 (kp lo' hi' h2 h4)
  · have hjj : j = css.length := by simp at hj; omega
    subst hjj
    refine ⟨lo, hi, hlo, by omega, ?_, fin lo hi hhi hne⟩
    rw [List.getElem_append_right (Nat.le_refl _)]
    simp only [Nat.sub_self, List.getElem_cons_zero]
    exact hS.keep _ _ _ _ _ _ hq (kp lo hi hhi hne)
theorem Made.same {α : Type} {Q : Nat → Nat → Nat → α → World → Prop} (hS : Sayable Q) {cl : α → List Value} {e : TypeId} {sz B : Nat} {css : List α} {o : Value} {w w' : World}
    (hm : Made Q cl e sz B css o w) (hs : w.heap.size ≤ w'.heap.size) (hb : ∀ b, B ≤ b → w'.heap[b]? = w.heap[b]?) : Made Q cl e sz B css o w' := by
  refine ⟨⟨hm.1.1, hm.1.2.imp_right ?_⟩, ?_⟩
  · rintro ⟨g, cap, cur, h1, h2, h3, h4⟩
    exact ⟨g, cap, cur, h1, h2, (hb g h2).trans h3, h4⟩
  · intro j hj
    obtain ⟨lo, hi, h1, h2, h3, h4⟩ := hm.2 j hj
    exact ⟨lo, hi, h1, by omega, hS.keep _ _ _ _ _ _ h3 (fun b h5 _ => hb b (by omega)), h4⟩
/-- three inlines are gathered -/
def Gathered (s u x t : ByteArray) (B : Nat) (vs : List Value) (o : Value) (w : World) : Prop := Made (fun i => InlineIs (three s u x t i)) (fun v => [v]) 34 1 B vs o w
theorem gathered_three {s u x t : ByteArray} {B : Nat} {vs : List Value} {o : Value} {w : World} (h : Gathered s u x t B vs o w) (hl : vs.length = 3) :
    ∃ b cap p k g h q, o = .slice (some ⟨b, 0, none⟩) 3 cap ∧ ThreeIn s u x t b p k g h q w := by
  obtain ⟨hown, hq⟩ := h
  rw [hl] at hown
  obtain ⟨b, cap, rfl, g1, g2, g3⟩ := owns_row hown (by omega)
  match vs, hl with
  | [v0, v1, v2], _ =>
    obtain ⟨lo, hi, _, _, ⟨p, _, _, h0, k0⟩, _⟩ := hq 0 (by simp)
    obtain ⟨lo, hi, _, _, ⟨k, g, h, _, _, _, _, _, _, h1, k1⟩, _⟩ := hq 1 (by simp)
    obtain ⟨lo, hi, _, _, ⟨q, _, _, h2, k2⟩, _⟩ := hq 2 (by simp)
    simp at h0 h1 h2
    subst h0 h1 h2
    exact ⟨b, cap, p, k, g, h, q, rfl, by simpa using g3, k0, k1, k2⟩
theorem gathered_two {s u x t : ByteArray} {O A1 A2 : Obj} {w0 w2 w3 w4 : World} {k g h g1 cap1 g2 cap2 n1 n2 : Nat} {xs1 xs2 : List Value}
    (hb : Below (w0.alloc O).heap.size (w0.alloc O) w2) (hk : (w0.alloc O).heap.size ≤ k) (hg : (w0.alloc O).heap.size ≤ g) (hh : (w0.alloc O).heap.size ≤ h) (hl : LinkIn u x k g h w2)
    (hown1 : w3.ownsRow (w0.heap.size + 1) 34 1 (.slice (some ⟨g1, 0, none⟩) n1 cap1) n1 xs1) (hn1 : n1 = 1) (hx1 : xs1 = [.iface 51 (.pointer (some ⟨w2.heap.size, 0, none⟩))])
    (hgrow1 : ((w2.alloc (.cells #[.string s] 54)).alloc A1).grownBy w3 none) (hat1 : g1 = w2.heap.size + 1 + 1)
    (hown2 : w4.ownsRow (w0.heap.size + 1) 34 1 (.slice (some ⟨g2, 0, none⟩) n2 cap2) n2 xs2) (hn2 : n2 = 2) (hx2 : xs2 = [.iface 51 (.pointer (some ⟨w2.heap.size, 0, none⟩)), .iface 69 (.pointer (some ⟨k, 0, none⟩))])
    (hgrow2 : (w3.alloc A2).grownBy w4 (some g1)) (hat2 : some g1 = some g2 ∨ g2 = w3.heap.size + 1) :
    Gathered s u x t (w0.heap.size + 1) [.iface 51 (.pointer (some ⟨w2.heap.size, 0, none⟩)), .iface 69 (.pointer (some ⟨k, 0, none⟩))] (.slice (some ⟨g2, 0, none⟩) n2 cap2) w4 ∧ Below (w0.heap.size + 1) (w0.alloc O) w4 := by
  have s1 : (w0.alloc O).heap.size = w0.heap.size + 1 := by simp
  rw [s1] at hb hk hg hh
  have s2 := hb.size
  rw [s1] at s2
  have sP : (w2.alloc (.cells #[.string s] 54)).heap.size = w2.heap.size + 1 := by simp
  have hl' := hl.lt
  have hS := inline_sayable (three s u x t)
  have hb1 : Below (w0.alloc O).heap.size (w0.alloc O) (w2.alloc (.cells #[.string s] 54)) := by rw [s1]; exact hb.alloc s2 _
  have hM1 : Gathered s u x t (w0.heap.size + 1) ([] ++ [.iface 51 (.pointer (some ⟨w2.heap.size, 0, none⟩))]) (.slice (some ⟨g1, 0, none⟩) n1 cap1) w3 := by
    refine Made.step hS (Made.nil _ _ _ _ _ (w0.alloc O)) (by omega) hb1 ?_ hown1 hn1 (by rw [hx1]; rfl) hgrow1 (.inr (by omega))
    exact ⟨w2.heap.size, by omega, by omega, rfl, heap_alloc_new w2 _⟩
  have hB1 : Below (w0.heap.size + 1) (w0.alloc O) w3 := grown_below (Below.refl _ _) (World.ownsRow_nil _ _ 34 1) (by omega) hb1 hgrow1
  have s3 := hgrow1.size
  rw [show ((w2.alloc (.cells #[.string s] 54)).alloc A1).heap.size = w2.heap.size + 1 + 1 by simp] at s3
  have kp : ∀ b, b < w2.heap.size → w3.heap[b]? = w2.heap[b]? := by
    intro b hb
    rw [hgrow1.block b (by simp; omega) (by simp), heap_alloc_old _ _ (by omega), heap_alloc_old _ _ hb]
  have hM2 : Gathered s u x t (w0.heap.size + 1) ([.iface 51 (.pointer (some ⟨w2.heap.size, 0, none⟩))] ++ [.iface 69 (.pointer (some ⟨k, 0, none⟩))]) (.slice (some ⟨g2, 0, none⟩) n2 cap2) w4 := by
    refine Made.step2 hS hM1 (lo := w0.heap.size + 1) (hi := w2.heap.size) (Nat.le_refl _) (by omega) ?_ ?_ hown2 hn2 (by rw [hx2]; rfl) hgrow2 hat2
    · exact ⟨k, g, h, hk, hl'.1, hg, hl'.2.1, hh, hl'.2.2, rfl, hl.of (kp k hl'.1) (kp g hl'.2.1) (kp h hl'.2.2)⟩
    · intro g' hg'
      have : g' = g1 := by simpa [Value.ownBlock] using hg'.symm
      omega
  exact ⟨hM2, grown_below hB1 hown1 (by omega) (Below.refl _ _) hgrow2⟩
/-- what stands at the jump: two inlines are gathered -/
def Jumped (s u x t : ByteArray) (w0 : World) (g cap : Nat) (w : World) : Prop := ∃ vs, vs.length = 2 ∧ Gathered s u x t (w0.heap.size + 1) vs (.slice (some ⟨g, 0, none⟩) 2 cap) w ∧ Below w0.heap.size w0 w ∧ w0.heap.size + 1 ≤ w.heap.size
theorem jumped {s u x t : ByteArray} {O : Obj} {w0 w4 : World} {g cap : Nat} {vs : List Value} (hl : vs.length = 2) (hM : Gathered s u x t (w0.heap.size + 1) vs (.slice (some ⟨g, 0, none⟩) 2 cap) w4) (hB : Below (w0.heap.size + 1) (w0.alloc O) w4) (a b : Value) :
    Jumped s u x t w0 g cap ((w4.setCell ⟨w0.heap.size, 0, none⟩ a).setCell ⟨w0.heap.size, 1, none⟩ b) := by
  have s1 : (w0.alloc O).heap.size = w0.heap.size + 1 := by simp
  have s2 := hB.size
  have hsz : ((w4.setCell ⟨w0.heap.size, 0, none⟩ a).setCell ⟨w0.heap.size, 1, none⟩ b).heap.size = w4.heap.size := by simp
  refine ⟨vs, hl, Made.same (inline_sayable _) hM (by omega) ?_, ?_, by omega⟩
  · intro b' hb'
    rw [heap_setCell_other _ _ _ _ (by show b' ≠ w0.heap.size; omega), heap_setCell_other _ _ _ _ (by show b' ≠ w0.heap.size; omega)]
  · exact ((((Below.refl _ w0).alloc (Nat.le_refl _) O).trans (hB.mono (by omega))).setCell (Nat.le_refl _) _).setCell (Nat.le_refl _) _
/-- behind the last append -/
def Linked (s u x t : ByteArray) (w : World) (e : Ending) (w' : World) : Prop := ∃ b cap p k g h q, e = .returned (.slice (some ⟨b, 0, none⟩) 3 cap) ∧ ThreeIn s u x t b p k g h q w' ∧ Below w.heap.size w w'
theorem linked {s u x t : ByteArray} {A : Obj} {w0 w w' : World} {g cap g3 cap3 n3 : Nat} {vs xs3 : List Value} (hl : vs.length = 2) (hM : Gathered s u x t (w0.heap.size + 1) vs (.slice (some ⟨g, 0, none⟩) 2 cap) w) (hB : Below w0.heap.size w0 w) (hs : w0.heap.size + 1 ≤ w.heap.size)
    (hown3 : w'.ownsRow (w0.heap.size + 1) 34 1 (.slice (some ⟨g3, 0, none⟩) n3 cap3) n3 xs3) (hn3 : n3 = 3) (hx3 : xs3 = vs.flatMap (fun v => [v]) ++ [.iface 51 (.pointer (some ⟨w.heap.size, 0, none⟩))])
    (hgrow3 : ((w.alloc (.cells #[.string t] 54)).alloc A).grownBy w' (some g)) (hat3 : some g = some g3 ∨ g3 = w.heap.size + 1 + 1) :
    Linked s u x t w0 (.returned (.slice (some ⟨g3, 0, none⟩) n3 cap3)) w' := by
  have sP : (w.alloc (.cells #[.string t] 54)).heap.size = w.heap.size + 1 := by simp
  have hb1 : Below w.heap.size w (w.alloc (.cells #[.string t] 54)) := (Below.refl _ _).alloc (Nat.le_refl _) _
  have hM3 : Gathered s u x t (w0.heap.size + 1) (vs ++ [.iface 51 (.pointer (some ⟨w.heap.size, 0, none⟩))]) (.slice (some ⟨g3, 0, none⟩) n3 cap3) w' := by
    refine Made.step (inline_sayable _) hM hs hb1 ?_ hown3 (by omega) hx3 hgrow3 (by rw [sP]; exact hat3)
    show InlineIs (three s u x t vs.length) _ _ _ _
    rw [hl]
    exact ⟨w.heap.size, by omega, by omega, rfl, heap_alloc_new w _⟩
  obtain ⟨b, cap', p, k, g', h, q, h1, h2⟩ := gathered_three hM3 (by simp; omega)
  refine ⟨b, cap', p, k, g', h, q, by rw [h1], h2, ?_⟩
  have h5 := grown_below (B := w0.heap.size + 1) (Below.refl _ w) hM.1 hs hb1 hgrow3
  exact hB.trans (h5.mono (by omega))
end Go.Proofs.YtbbgdcfbpgmjbaaGreatDoor
