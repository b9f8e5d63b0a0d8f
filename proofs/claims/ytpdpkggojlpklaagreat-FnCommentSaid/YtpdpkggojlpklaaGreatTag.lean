/- The thin package's node of a part of raw HTML. -/
import Derived.Test.YtpdpkggojlpklaaGreatNode
namespace Go.Proofs.YtpdpkggojlpklaaGreat
open Go.RowKit
set_option maxRecDepth 100000 in
set_option maxHeartbeats 1000000 in
theorem impl_inline_tag (b : Nat) (t : ByteArray) (w : World) (hb : b < w.heap.size) (hc : w.cell? ⟨b, 0, none⟩ = some (.string t)) :
    Calls Tryz.prog 15 #[.iface 70 (.pointer (some ⟨b, 0, none⟩))] w fun e w' => e = .returned (nodeOf 29 t false) ∧ Below w.heap.size w w' := by
  have a0 : ∀ w, (Instr.typeAssert (.iface 70 (.pointer (some ⟨b, 0, none⟩))) 34 45 true).run Tryz.prog w = .ok (.tuple #[.pointer none, .bool false]) w := fun w => assert_miss (by kernel_rfl) (by decide) (by kernel_rfl) _ _ w
  have a1 : ∀ w, (Instr.typeAssert (.iface 70 (.pointer (some ⟨b, 0, none⟩))) 34 48 true).run Tryz.prog w = .ok (.tuple #[.pointer none, .bool false]) w := fun w => assert_miss (by kernel_rfl) (by decide) (by kernel_rfl) _ _ w
  have a2 : ∀ w, (Instr.typeAssert (.iface 70 (.pointer (some ⟨b, 0, none⟩))) 34 49 true).run Tryz.prog w = .ok (.tuple #[.pointer none, .bool false]) w := fun w => assert_miss (by kernel_rfl) (by decide) (by kernel_rfl) _ _ w
  have a3 : ∀ w, (Instr.typeAssert (.iface 70 (.pointer (some ⟨b, 0, none⟩))) 34 50 true).run Tryz.prog w = .ok (.tuple #[.pointer none, .bool false]) w := fun w => assert_miss (by kernel_rfl) (by decide) (by kernel_rfl) _ _ w
  have a4 : ∀ w, (Instr.typeAssert (.iface 70 (.pointer (some ⟨b, 0, none⟩))) 34 52 true).run Tryz.prog w = .ok (.tuple #[.pointer none, .bool false]) w := fun w => assert_miss (by kernel_rfl) (by decide) (by kernel_rfl) _ _ w
  have a5 : ∀ w, (Instr.typeAssert (.iface 70 (.pointer (some ⟨b, 0, none⟩))) 34 57 true).run Tryz.prog w = .ok (.tuple #[.pointer none, .bool false]) w := fun w => assert_miss (by kernel_rfl) (by decide) (by kernel_rfl) _ _ w
  have a6 : ∀ w, (Instr.typeAssert (.iface 70 (.pointer (some ⟨b, 0, none⟩))) 34 59 true).run Tryz.prog w = .ok (.tuple #[.pointer none, .bool false]) w := fun w => assert_miss (by kernel_rfl) (by decide) (by kernel_rfl) _ _ w
  have a7 : ∀ w, (Instr.typeAssert (.iface 70 (.pointer (some ⟨b, 0, none⟩))) 34 61 true).run Tryz.prog w = .ok (.tuple #[.pointer none, .bool false]) w := fun w => assert_miss (by kernel_rfl) (by decide) (by kernel_rfl) _ _ w
  have a8 : ∀ w, (Instr.typeAssert (.iface 70 (.pointer (some ⟨b, 0, none⟩))) 34 65 true).run Tryz.prog w = .ok (.tuple #[.pointer none, .bool false]) w := fun w => assert_miss (by kernel_rfl) (by decide) (by kernel_rfl) _ _ w
  have a9 : ∀ w, (Instr.typeAssert (.iface 70 (.pointer (some ⟨b, 0, none⟩))) 34 67 true).run Tryz.prog w = .ok (.tuple #[.pointer none, .bool false]) w := fun w => assert_miss (by kernel_rfl) (by decide) (by kernel_rfl) _ _ w
  have az : ∀ w, (Instr.typeAssert (.iface 70 (.pointer (some ⟨b, 0, none⟩))) 34 70 true).run Tryz.prog w = .ok (.tuple #[.pointer (some ⟨b, 0, none⟩), .bool true]) w := fun w => assert_hit (by kernel_rfl) _ _ w
  have H := Lib.hid (fun w => md_ZZPlain 70 (.pointer (some ⟨b, 0, none⟩)) w (by decide) (by decide) (by decide))
  go_enter Tryz.func15, Tryz.ntmps15
  go_wp2_with (go_at_call 19; refine (H.out _).mono ?_; rintro e w' ⟨rfl, rfl⟩)
  exact bodyPost_ret (v := nodeOf 29 t false) (by simp [results, go_sem, nodeOf, nodeCells]) rfl ⟨rfl, (Below.refl _ _).alloc (Nat.le_refl _) _⟩
/-- the three results of the thin package's words for inlines -/
def ThreeOf (N : Value) (a : Int) (ok : Bool) : Value := .tuple #[N, .int .i64 a, .bool ok]
set_option maxRecDepth 100000 in
theorem impl_one_no (v : Value) (a : Int) (w : World) :
    Calls Tryz.prog 11 #[v, .int .i64 a, .bool false] w fun e w' => e = .returned (ThreeOf (nodeOf 0 ⟨#[]⟩ false) 0 false) ∧ Below w.heap.size w w' := by
  go_enter Tryz.func11, Tryz.ntmps11
  go_wp2_with (fail)
  exact bodyPost_ret (v := ThreeOf (nodeOf 0 ⟨#[]⟩ false) 0 false) (by simp [results, go_sem, nodeOf, nodeCells, ThreeOf]) rfl ⟨rfl, (Below.refl _ _).alloc (Nat.le_refl _) _⟩
set_option maxRecDepth 100000 in
theorem impl_one_yes (v : Value) (k : Int) (t : ByteArray) (esc : Bool) (a : Int) (w : World)
    (H : ∀ w' : World, Below w.heap.size w w' → Calls Tryz.prog 15 #[v] w' fun e w2 => e = .returned (nodeOf k t esc) ∧ Below w'.heap.size w' w2) :
    Calls Tryz.prog 11 #[v, .int .i64 a, .bool true] w fun e w' => e = .returned (ThreeOf (nodeOf k t esc) a true) ∧ Below w.heap.size w w' := by
  have H := Lib.hid H
  go_enter Tryz.func11, Tryz.ntmps11
  go_wp2_with (go_at_call 15; refine (H.out _ ((Below.refl _ _).alloc (Nat.le_refl _) _)).mono ?_; rintro e w2 ⟨rfl, hb⟩; have hrow := row_kept hb (heap_alloc_new w _) (by simp))
  case h_1.isFalse h1 h2 => unfold nodeOf at h1; injection h1 with h1; subst h1; exact absurd (nodeCells_size k t esc) h2
  case h_2 h1 => exact (h1 _ rfl).elim
  rename_i x cs h1 h2
  unfold nodeOf at h1; injection h1 with h1; subst h1
  have hst := store_node (nodeCells k t esc) (nodeCells_size k t esc) (nodeCells_one k t esc) w2 w.heap.size _ hrow rfl
  rw [hst]
  go_wp2
  have hl := load_struct (P := Tryz.prog) (ty := 29) (n := 16) (by kernel_rfl) (w2.setRow w.heap.size (nodeCells k t esc)) w.heap.size 29 (nodeCells k t esc) (0, 0) (setRow_heap _ _ _ _ _ _ hrow) (nodeCells_size k t esc)
  exact bodyPost_ret (v := ThreeOf (nodeOf k t esc) a true) (by simp [results, asAddr, nodeOf, ThreeOf, hl]) rfl ⟨rfl, bel_setRow (bel_two ((Below.refl _ _).alloc (Nat.le_refl _) _) hb (Nat.le_refl _)) (Nat.le_refl _) _⟩
end Go.Proofs.YtpdpkggojlpklaaGreat
