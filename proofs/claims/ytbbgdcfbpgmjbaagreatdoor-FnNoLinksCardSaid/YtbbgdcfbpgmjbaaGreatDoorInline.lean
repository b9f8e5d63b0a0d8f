/- The thin package's nodes of plain texts; 'inlines' at any list whose inlines 'inline' makes nodes of. -/
import Derived.Test.YtbbgdcfbpgmjbaaGreatDoorPrintLink
import Derived.Test.YtbbgdcfbpgmjbaaGreatDoorNode
import Derived.Deep.AppendLies
import Derived.OwnWalk
import Derived.Deep.LoopGhost
namespace Go.Proofs.YtbbgdcfbpgmjbaaGreatDoor
open Go.RowKit
theorem md_toPlain_hit (p : Addr) (w : World) :
    Calls Tryz.prog 26 #[.iface 51 (.pointer (some p))] w fun e w' => e = .returned (.pointer (some p)) ∧ w = w' := by
  have a1 : ∀ w, (Instr.typeAssert (.iface 51 (.pointer (some p))) 34 51 true).run Tryz.prog w = .ok (.tuple #[.pointer (some p), .bool true]) w := fun w => assert_hit (by kernel_rfl) _ _ w
  go_enter Tryz.func26, Tryz.ntmps26
  go_wp2_with (fail)
  go_ret
  exact ⟨rfl, rfl⟩
theorem md_ZZPlain_hit (p : Addr) (w : World) :
    Calls Tryz.prog 19 #[.iface 51 (.pointer (some p))] w fun e w' => e = .returned (.pointer (some p)) ∧ w = w' := by
  have H := Lib.hid (fun w => md_toPlain_hit p w)
  go_enter Tryz.func19, Tryz.ntmps19
  go_wp2_with (go_at_call 26; refine (H.out _).mono ?_; rintro e w' ⟨rfl, rfl⟩)
  go_ret
  exact ⟨rfl, rfl⟩
set_option maxRecDepth 100000 in
set_option maxHeartbeats 1000000 in
theorem impl_inline_plain (b : Nat) (t : ByteArray) (w : World) (hc : w.cell? ⟨b, 0, none⟩ = some (.string t)) (hb : b < w.heap.size) :
    Calls Tryz.prog 13 #[.iface 51 (.pointer (some ⟨b, 0, none⟩))] w fun e w' => e = .returned (nodeOf 20 t false) ∧ Below w.heap.size w w' := by
  have H := Lib.hid (fun w => md_ZZPlain_hit ⟨b, 0, none⟩ w)
  go_enter Tryz.func13, Tryz.ntmps13
  go_wp2_with (go_at_call 19; refine (H.out _).mono ?_; rintro e w' ⟨rfl, rfl⟩)
  exact bodyPost_ret (v := nodeOf 20 t false) (by simp [results, go_sem, nodeOf, nodeCells]) rfl ⟨rfl, (Below.refl _ _).alloc (Nat.le_refl _) _⟩
end Go.Proofs.YtbbgdcfbpgmjbaaGreatDoor
