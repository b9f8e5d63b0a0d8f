/- What a slice of nodes, or of inlines, that a call has gathered says of its elements. -/
import Derived.Test.YtbbgdcfbpgmjbaaGreatDoorPrintLink
import Derived.Test.YtbbgdcfbpgmjbaaGreatDoorNode
import Derived.Deep.AppendLies
import Derived.OwnWalk
namespace Go.Proofs.YtbbgdcfbpgmjbaaGreatDoor
open Go.RowKit
/-- what is said of an element stands as long as the blocks from lo to hi stand; it may be said of more blocks -/
structure Sayable {α : Type} (Q : Nat → Nat → Nat → α → World → Prop) : Prop where
  keep : ∀ i lo hi c (w1 w2 : World), Q i lo hi c w1 → (∀ b, lo ≤ b → b < hi → w2.heap[b]? = w1.heap[b]?) → Q i lo hi c w2
  wide : ∀ i lo hi lo' hi' c w, Q i lo hi c w → lo' ≤ lo → hi ≤ hi' → Q i lo' hi' c w
/-- the slice o owns these elements; of each is said what is to be said, in blocks from B on that are not the slice's -/
def Made {α : Type} (Q : Nat → Nat → Nat → α → World → Prop) (cl : α → List Value) (e : TypeId) (sz B : Nat) (css : List α) (o : Value) (w : World) : Prop :=
  w.ownsRow B e sz o css.length (css.flatMap cl) ∧ ∀ j (h : j < css.length), ∃ lo hi, B ≤ lo ∧ hi ≤ w.heap.size ∧ Q j lo hi css[j] w ∧ ∀ g, o.ownBlock = some g → g < lo ∨ hi ≤ g
theorem Made.nil {α : Type} (Q : Nat → Nat → Nat → α → World → Prop) (cl : α → List Value) (e : TypeId) (sz B : Nat) (w : World) : Made Q cl e sz B [] (.slice none 0 0) w :=
  ⟨World.ownsRow_nil _ _ _ _, fun _ h => absurd h (Nat.not_lt_zero _)⟩
theorem owns_below {w w' : World} {B : Nat} {e : TypeId} {sz n : Nat} {v : Value} {xs : List Value} (h : w.ownsRow B e sz v n xs) (hb : Below w.heap.size w w') : w'.ownsRow B e sz v n xs := by
  refine ⟨h.1, h.2.imp_right ?_⟩
  rintro ⟨g, cap, cur, h1, h2, h3, h4⟩
  exact ⟨g, cap, cur, h1, h2, (hb.block g (Array.getElem?_eq_some_iff.1 h3).1).trans h3, h4⟩
theorem Made.step {α : Type} {Q : Nat → Nat → Nat → α → World → Prop} (hS : Sayable Q) {cl : α → List Value} {e : TypeId} {sz B : Nat} {css : List α} {o : Value} {w w2 w3 : World} {c : α} {ob : Obj} {g n' cap : Nat} {xs' : List Value}
    (hm : Made Q cl e sz B css o w) (hB : B ≤ w.heap.size) (hb : Below w.heap.size w w2) (hq : Q css.length w.heap.size w2.heap.size c w2)
    (hown : w3.ownsRow B e sz (.slice (some ⟨g, 0, none⟩) n' cap) n' xs') (hn : n' = css.length + 1) (hx : xs' = css.flatMap cl ++ cl c)
    (hgrow : (w2.alloc ob).grownBy w3 o.ownBlock) (hat : o.ownBlock = some g ∨ g = w2.heap.size + 1) :
    Made Q cl e sz B (css ++ [c]) (.slice (some ⟨g, 0, none⟩) n' cap) w3 := by
  subst hn hx
  have hs2 := hb.size
  have hs3 := hgrow.size
  have hal : (w2.alloc ob).heap.size = w2.heap.size + 1 := by simp
  rw [hal] at hs3
  refine ⟨by simpa using hown, ?_⟩
  intro j hj
  have hstep : ∀ b, b < w2.heap.size → some b ≠ o.ownBlock → w3.heap[b]? = w2.heap[b]? := by
    intro b h1 h2
    rw [hgrow.block b (by simp; omega) h2]
    exact heap_alloc_old w2 _ h1
  have hg : ∀ g', o.ownBlock = some g' → g' < w.heap.size := fun g' h' => (hm.1.lt g' h').2
  rcases Nat.lt_or_ge j css.length with h | h
  · obtain ⟨lo, hi, h1, h2, h3, h4⟩ := hm.2 j h
    refine ⟨lo, hi, h1, by omega, ?_, ?_⟩
    · rw [List.getElem_append_left h]
      refine hS.keep _ _ _ _ _ _ h3 ?_
      intro b hb1 hb2
      rw [hstep b (by omega) (by
        intro hh
        rcases h4 b hh.symm with h5 | h5 <;> omega)]
      exact hb.block b (by omega)
    · intro g' hg'
      have : g' = g := by simpa [Value.ownBlock] using hg'.symm
      subst this
      rcases hat with h5 | h5
      · exact h4 _ h5
      · right; omega
  · have hjj : j = css.length := by simp at hj; omega
    subst hjj
    refine ⟨w.heap.size, w2.heap.size, hB, by omega, ?_, ?_⟩
    · rw [List.getElem_append_right (Nat.le_refl _)]
      simp only [Nat.sub_self, List.getElem_cons_zero]
      refine hS.keep _ _ _ _ _ _ hq ?_
      intro b hb1 hb2
      exact hstep b hb2 (by intro hh; have := hg b hh.symm; omega)
    · intro g' hg'
      have : g' = g := by simpa [Value.ownBlock] using hg'.symm
      subst this
      rcases hat with h5 | h5
      · exact .inl (hg _ h5)
      · right; omega
/-- behind the call: the frame -/
theorem grown_below {B : Nat} {w0 w w2 w3 : World} {ob : Obj} {o : Value} {e : TypeId} {sz n : Nat} {xs : List Value} (h : Below B w0 w) (hown : w.ownsRow B e sz o n xs) (hB : B ≤ w.heap.size) (hb : Below w.heap.size w w2) (hgrow : (w2.alloc ob).grownBy w3 o.ownBlock) : Below B w0 w3 := by
  have h2 : Below B w0 w2 := h.trans (hb.mono hB)
  have h3 : Below B w0 (w2.alloc ob) := h2.alloc (Nat.le_trans hB hb.size) _
  have hs3 := hgrow.size
  refine ⟨hgrow.os.trans h3.os, hgrow.tape.trans h3.tape, hgrow.output.trans h3.output, Nat.le_trans h3.size hs3, ?_⟩
  intro b hb'
  rw [hgrow.block b (by have := hb.size; simp; omega) (by intro hh; have := (hown.lt b hh.symm).1; omega)]
  exact h3.block b hb'
end Go.Proofs.YtbbgdcfbpgmjbaaGreatDoor
