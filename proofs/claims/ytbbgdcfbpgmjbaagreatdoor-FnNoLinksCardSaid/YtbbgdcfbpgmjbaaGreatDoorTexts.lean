/- The laws' own words on texts: lined, printable, inside, white. -/
import Derived.Test.YtbbgdcfbpgmjbaaGreatDoorBytes
import Derived.Test.YtbbgdcfbpgmjbaaGreatDoorScan
namespace Go.Proofs.YtbbgdcfbpgmjbaaGreatDoor
open Go.RowKit

/-- a place in a text of printable bytes and line feeds, so many at most -/
def insideB (s : ByteArray) (i most : Int) : Bool := decide (0 ≤ i) && decide (i ≤ (s.size : Int)) && fitB linB s most
theorem insideB_iff {s : ByteArray} {i most : Int} (h : insideB s i most = true) : 0 ≤ i ∧ i ≤ (s.size : Int) ∧ (s.size : Int) ≤ most ∧ allB linB s.data.toList = true := by
  simp only [insideB, fitB, Bool.and_eq_true, decide_eq_true_eq] at h; exact ⟨h.1.1, h.1.2, h.2.1, h.2.2⟩
end Go.Proofs.YtbbgdcfbpgmjbaaGreatDoor
