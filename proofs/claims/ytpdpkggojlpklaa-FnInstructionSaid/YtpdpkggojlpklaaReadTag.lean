/- The laws' word 'read'. -/
import Derived.Test.YtpdpkggojlpklaaInstruction
namespace Go.Proofs.Ytpdpkggojlpklaa
open Go.RowKit
theorem bel_drewR {B : Nat} {a w : World} (h : Below B a w) (n : Nat) : Below B a (w.drewN n) := ⟨h.os, h.tape, h.output, h.size, h.block⟩
set_option maxRecDepth 100000 in
set_option maxHeartbeats 2000000 in
theorem laws_read_no (s : ByteArray) (i : Nat) (cs : Array Value) (hcs : cs = nodeCells 0 ⟨#[]⟩ false) (w : World) :
    Calls Try.prog 8 #[.agg cs, .int .i64 0, .bool false, .string s, .int .i64 i, .int .i64 0] w fun e w' => e = .returned (.bool true) ∧ Below w.heap.size w w' := by
  subst hcs
  unfold nodeCells
  go_enter Try.func8, Try.ntmps8
  go_wp2_with (fail)
  go_ret
  exact ⟨rfl, (Below.refl _ _).alloc (Nat.le_refl _) _⟩
set_option maxRecDepth 100000 in
set_option maxHeartbeats 2000000 in
theorem laws_read_yes (s : ByteArray) (i u : Nat) (hs : s.size ≤ 1000) (hu : u ≠ 0) (hl : i + u ≤ s.size) (w : World) :
    Calls Try.prog 8 #[.agg (nodeCells 29 (s.extract i (i + u)) false), .int .i64 ((i + u : Nat) : Int), .bool true, .string s, .int .i64 i, .int .i64 u] w fun e w' => e = .returned (.bool true) ∧ Below w.heap.size w w' := by
  have hu0 : ((u : Int) == 0) = false := beq_eq_false_iff_ne.2 (by omega)
  unfold nodeCells
  go_enter Try.func8, Try.ntmps8
  go_wp2_with (fail)
  go_quiet (fail)
  go_wp2
  go_ret
  refine ⟨ret_bool ?_, bel_drewR ((Below.refl _ _).alloc (Nat.le_refl _) _) _⟩
  first | rfl | (simp; done)
end Go.Proofs.Ytpdpkggojlpklaa
