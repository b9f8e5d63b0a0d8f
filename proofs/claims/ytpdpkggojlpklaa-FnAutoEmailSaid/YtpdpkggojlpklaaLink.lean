/- The thin package's node of an automatic link; its word 'one' at any node. -/
import Derived.Test.YtpdpkggojlpklaaTag
import Derived.RegionTactic
import Derived.ChangeAlike
namespace Go.Proofs.Ytpdpkggojlpklaa
open Go.RowKit
/-- the cells of a node of an automatic link -/
def linkCells (t : ByteArray) (kids : Value) : Array Value := #[.int .i64 27, .string t, .string ⟨#[]⟩, .int .i64 0, .string ⟨#[]⟩, .bool false, .slice none 0 0, kids, .int .i64 0, .int .i64 0, .string ⟨#[]⟩, .int .i64 0, .bool false, .bool false, .bool true, .slice none 0 0]
/-- a node of an automatic link with this address -/
def IsLink (t : ByteArray) (cs : Array Value) : Prop := ∃ g : Nat, cs = linkCells t (.slice (some ⟨g, 0, none⟩) 1 1)
/-- the call makes a node of such cells -/
def NodeMade (Q : Array Value → Prop) (w : World) (e : Ending) (w' : World) : Prop := ∃ cs : Array Value, Q cs ∧ e = .returned (.agg cs) ∧ Below w.heap.size w w'
set_option maxRecDepth 100000 in
set_option maxHeartbeats 1000000 in
theorem impl_inline_auto (b : Nat) (x t : ByteArray) (w : World) (hb : b < w.heap.size) (hc : w.cell? ⟨b, 0, none⟩ = some (.string x)) (hc1 : w.cell? ⟨b, 1, none⟩ = some (.string t)) :
    Calls Try.prog 20 #[.iface 71 (.pointer (some ⟨b, 0, none⟩))] w (NodeMade (IsLink t) w) := by
  have a0 : ∀ w, (Instr.typeAssert (.iface 71 (.pointer (some ⟨b, 0, none⟩))) 38 49 true).run Try.prog w = .ok (.tuple #[.pointer none, .bool false]) w := fun w => assert_miss (by kernel_rfl) (by decide) (by kernel_rfl) _ _ w
  have a1 : ∀ w, (Instr.typeAssert (.iface 71 (.pointer (some ⟨b, 0, none⟩))) 38 52 true).run Try.prog w = .ok (.tuple #[.pointer none, .bool false]) w := fun w => assert_miss (by kernel_rfl) (by decide) (by kernel_rfl) _ _ w
  have a2 : ∀ w, (Instr.typeAssert (.iface 71 (.pointer (some ⟨b, 0, none⟩))) 38 53 true).run Try.prog w = .ok (.tuple #[.pointer none, .bool false]) w := fun w => assert_miss (by kernel_rfl) (by decide) (by kernel_rfl) _ _ w
  have a3 : ∀ w, (Instr.typeAssert (.iface 71 (.pointer (some ⟨b, 0, none⟩))) 38 54 true).run Try.prog w = .ok (.tuple #[.pointer none, .bool false]) w := fun w => assert_miss (by kernel_rfl) (by decide) (by kernel_rfl) _ _ w
  have a4 : ∀ w, (Instr.typeAssert (.iface 71 (.pointer (some ⟨b, 0, none⟩))) 38 56 true).run Try.prog w = .ok (.tuple #[.pointer none, .bool false]) w := fun w => assert_miss (by kernel_rfl) (by decide) (by kernel_rfl) _ _ w
  have a5 : ∀ w, (Instr.typeAssert (.iface 71 (.pointer (some ⟨b, 0, none⟩))) 38 61 true).run Try.prog w = .ok (.tuple #[.pointer none, .bool false]) w := fun w => assert_miss (by kernel_rfl) (by decide) (by kernel_rfl) _ _ w
  have a6 : ∀ w, (Instr.typeAssert (.iface 71 (.pointer (some ⟨b, 0, none⟩))) 38 63 true).run Try.prog w = .ok (.tuple #[.pointer none, .bool false]) w := fun w => assert_miss (by kernel_rfl) (by decide) (by kernel_rfl) _ _ w
  have a7 : ∀ w, (Instr.typeAssert (.iface 71 (.pointer (some ⟨b, 0, none⟩))) 38 65 true).run Try.prog w = .ok (.tuple #[.pointer none, .bool false]) w := fun w => assert_miss (by kernel_rfl) (by decide) (by kernel_rfl) _ _ w
  have a8 : ∀ w, (Instr.typeAssert (.iface 71 (.pointer (some ⟨b, 0, none⟩))) 38 69 true).run Try.prog w = .ok (.tuple #[.pointer none, .bool false]) w := fun w => assert_miss (by kernel_rfl) (by decide) (by kernel_rfl) _ _ w
  have az : ∀ w, (Instr.typeAssert (.iface 71 (.pointer (some ⟨b, 0, none⟩))) 38 71 true).run Try.prog w = .ok (.tuple #[.pointer (some ⟨b, 0, none⟩), .bool true]) w := fun w => assert_hit (by kernel_rfl) _ _ w
  have H := Lib.hid (fun w => md_ZZPlain 71 (.pointer (some ⟨b, 0, none⟩)) w (by decide) (by decide) (by decide))
  go_enter Try.func20, Try.ntmps20
  go_wp2_with (go_at_call 27; refine (H.out _).mono ?_; rintro e w' ⟨rfl, rfl⟩)
  go_region
  go_wp2
  exact bodyPost_ret (v := .agg (linkCells t (.slice (some ⟨w.heap.size + 1, 0, none⟩) 1 1))) (by simp [results, go_sem, linkCells]) rfl ⟨_, ⟨_, rfl⟩, rfl, (((Below.refl _ _).alloc (Nat.le_refl _) _).alloc (by simp) _).drew⟩
theorem linkCells_size (t : ByteArray) (v : Value) : (linkCells t v).size = 16 := rfl
theorem link_shape (t : ByteArray) (cs : Array Value) (h : IsLink t cs) : cs.size = 16 ∧ cs.all (·.oneCell') = true := by
  obtain ⟨g, rfl⟩ := h
  exact ⟨rfl, by simp [linkCells, Value.oneCell']⟩
/-- the call tells three: a node of such cells, a place, and true -/
def OneMade (Q : Array Value → Prop) (a : Int) (w : World) (e : Ending) (w' : World) : Prop := ∃ cs : Array Value, Q cs ∧ e = .returned (ThreeOf (.agg cs) a true) ∧ Below w.heap.size w w'
set_option maxRecDepth 100000 in
theorem impl_one_any (Q : Array Value → Prop) (hQ : ∀ cs, Q cs → cs.size = 16 ∧ cs.all (·.oneCell') = true) (v : Value) (a : Int) (w : World)
    (H : ∀ w' : World, Below w.heap.size w w' → Calls Try.prog 20 #[v] w' (NodeMade Q w')) :
    Calls Try.prog 13 #[v, .int .i64 a, .bool true] w (OneMade Q a w) := by
  have H := Lib.hid H
  have HQ := Lib.hid hQ
  clear hQ
  go_enter Try.func13, Try.ntmps13
  go_wp2_with (go_at_call 20; refine (H.out _ ((Below.refl _ _).alloc (Nat.le_refl _) _)).mono ?_; rintro e w2 ⟨cs, hcs, rfl, hb⟩; have hrow := row_kept hb (heap_alloc_new w _) (by simp); have HC := Lib.hid hcs; clear hcs)
  case isFalse h2 => exact absurd (HQ.out _ HC.out).1 h2
  have hst := store_node _ (HQ.out _ HC.out).1 (HQ.out _ HC.out).2 w2 w.heap.size _ hrow rfl
  rw [hst]
  go_wp2
  have hl := load_struct (P := Try.prog) (ty := 28) (n := 16) (by kernel_rfl) (w2.setRow w.heap.size cs) w.heap.size 28 cs (0, 0) (setRow_heap _ _ _ _ _ _ hrow) (HQ.out _ HC.out).1
  exact bodyPost_ret (v := ThreeOf (.agg cs) a true) (by simp [results, asAddr, ThreeOf, hl]) rfl ⟨_, HC.out, rfl, bel_setRow (bel_two ((Below.refl _ _).alloc (Nat.le_refl _) _) hb (Nat.le_refl _)) (Nat.le_refl _) _⟩
end Go.Proofs.Ytpdpkggojlpklaa
