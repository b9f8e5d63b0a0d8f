/- FnTreeSum: for every slice of bytes the law returns true. -/
import Derived.Test.YtnocllocnoodnaaGreatDoorTreeWalk
import Derived.Test.YtnocllocnoodnaaGreatDoorTree
namespace Go.Proofs.YtnocllocnoodnaaGreatDoor
open Go.RowKit
theorem walkFnTreeSum (n c : Nat) (ao : Option Addr) (W : World) (hv : n ≤ 300 → BytesIn W.heap.size n (.slice ao n c) W) : Calls Tryz.prog 3 #[.slice ao n c] W fun e w' => e = .returned (.bool true) ∧ Below W.heap.size W w' := by
  by_cases h : n ≤ 300
  · exact walk_few n c 81702 ao W h (by decide) (laws_built n 255 122 81702 c ao W (hv h) (by decide) (by decide) (fun b w hb => blocks_3 b n w hb))
  · exact walk_many n c ao W (by omega)
end Go.Proofs.YtnocllocnoodnaaGreatDoor
