/- The slices of the package's pairs. -/
import Derived.Test.YtbbgdcfbpgmjbaaGreatDoorPairsPlain
import Derived.Test.YtbbgdcfbpgmjbaaGreatDoorRows
import Derived.WalkKit
import Derived.WalkSpells
import Derived.WalkLawsBesides
import Derived.Lib.Hide
import Derived.Below
namespace Go.Proofs.YtbbgdcfbpgmjbaaGreatDoor
open Go.RowKit
/-- a slice of pairs in a block of the call's own -/
def PairsMade (K : List UInt8) (E : UInt8 → List UInt8) (w : World) (e : Ending) (w' : World) : Prop :=
  e = .returned (.slice (some ⟨w.heap.size, 0, none⟩) (2 * K.length) (2 * K.length)) ∧ w' = w.alloc (.cells (pairCells K E) 9)
section
variable {P : Program} {Q : Exit → Act → World → Prop} {a : Act} {w : World}
/-- two pieces of code, one behind the other, what stands between them said outright -/
theorem seq_to {x y : Code} (a1 : Act) (w1 : World) (h1 : x.wp P (Exit.then (fun b v => b = a1 ∧ v = w1) Q) a w) (h2 : y.wp P Q a1 w1) : (Code.seq x y).wp P Q a w :=
  wp_seq (wp_mono h1 fun e b v h => by
    cases e
    case normal => obtain ⟨rfl, rfl⟩ := h; exact h2
    all_goals exact h)
/-- the operations of a region by another name -/
theorem rest_any {ops : Array Oper} {l : List Oper} (h : ∀ O : Array Oper, wpList P O Q l a w) : wpList P ops Q l a w := h ops
end
theorem link_len : 340 = 2 * linkK.length := by decide +kernel
set_option maxHeartbeats 1000000 in
set_option maxRecDepth 1000000 in
theorem md_htmlLinkEscaper (w : World) : Calls Tryz.prog 99 #[] w (PairsMade linkK linkE w) := by
  unfold PairsMade
  rw [← link_len]
  unfold pairCells
  go_enter Tryz.func99, Tryz.ntmps99
  refine seq_to ⟨#[.slice none 0 0, undef], []⟩ w ?h1 ?h2
  case h1 =>
    go_wp2
    first | exact ⟨rfl, rfl⟩ | exact ⟨trivial, trivial⟩ | exact ⟨trivial, rfl⟩ | trivial
  case h2 =>
    refine seq_to ⟨#[.slice (some ⟨w.heap.size, 0, none⟩) 340 340, .slice (some ⟨w.heap.size, 0, none⟩) 340 340], []⟩ (w.alloc (.cells ((pairL linkK linkE).map strV).toArray 9)) ?h1 ?h2
    case h1 =>
      apply wp_region_lit
      refine wpList_buildStr rfl 149 9 340 _ rfl (pairL linkK linkE) (by kernel_rfl) (by kernel_rfl) (by kernel_rfl) (by kernel_rfl) (by decide) (by decide) (by kernel_rfl) ?_
      refine rest_any fun O => ?_
      generalize pairL linkK linkE = ZS
      go_wp2
      first | exact ⟨rfl, rfl⟩ | exact ⟨trivial, trivial⟩ | exact ⟨trivial, rfl⟩ | trivial
    case h2 =>
      go_wp2
      go_ret
      exact ⟨rfl, rfl⟩
theorem html_len : 8 = 2 * htmlK.length := by decide +kernel
set_option maxHeartbeats 1000000 in
set_option maxRecDepth 1000000 in
theorem md_htmlEscaper (w : World) : Calls Tryz.prog 60 #[] w (PairsMade htmlK htmlE w) := by
  unfold PairsMade
  rw [← html_len]
  unfold pairCells
  go_enter Tryz.func60, Tryz.ntmps60
  refine seq_to ⟨#[.slice none 0 0, undef], []⟩ w ?h1 ?h2
  case h1 =>
    go_wp2
    first | exact ⟨rfl, rfl⟩ | exact ⟨trivial, trivial⟩ | exact ⟨trivial, rfl⟩ | trivial
  case h2 =>
    refine seq_to ⟨#[.slice (some ⟨w.heap.size, 0, none⟩) 8 8, .slice (some ⟨w.heap.size, 0, none⟩) 8 8], []⟩ (w.alloc (.cells ((pairL htmlK htmlE).map strV).toArray 9)) ?h1 ?h2
    case h1 =>
      apply wp_region_lit
      refine wpList_buildStr rfl 149 9 8 _ rfl (pairL htmlK htmlE) (by kernel_rfl) (by kernel_rfl) (by kernel_rfl) (by kernel_rfl) (by decide) (by decide) (by kernel_rfl) ?_
      refine rest_any fun O => ?_
      generalize pairL htmlK htmlE = ZS
      go_wp2
      first | exact ⟨rfl, rfl⟩ | exact ⟨trivial, trivial⟩ | exact ⟨trivial, rfl⟩ | trivial
    case h2 =>
      go_wp2
      go_ret
      exact ⟨rfl, rfl⟩
end Go.Proofs.YtbbgdcfbpgmjbaaGreatDoor
