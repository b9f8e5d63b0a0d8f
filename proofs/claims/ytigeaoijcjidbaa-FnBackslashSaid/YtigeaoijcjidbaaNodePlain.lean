/- Type assertions to pointers; the package's door from its inlines to the thin package's nodes, of the two inlines that an escape makes. -/
import Derived.Test.YtigeaoijcjidbaaBlk
import Derived.Lib.Hide
namespace Go.Proofs.Ytigeaoijcjidbaa
open Go.RowKit
/-- the type is a pointer's -/
def isPtr (P : Program) (t : TypeId) : Bool := match P.underlying t with | some (.pointer _) => true | _ => false
theorem isPtr_iff {P : Program} {t : TypeId} (h : isPtr P t = true) : ∃ e, P.underlying t = some (.pointer e) := by
  unfold isPtr at h; split at h
  · exact ⟨_, by assumption⟩
  · cases h
/-- an assertion to a pointer type that holds -/
theorem assert_hit {P : Program} {t : TypeId} (hu : isPtr P t = true) (v : Value) (xT : TypeId) (w : World) :
    (Instr.typeAssert (.iface t v) xT t true).run P w = .ok (.tuple #[v, .bool true]) w := by
  obtain ⟨e, hu⟩ := isPtr_iff hu
  simp [Instr.typeAssert, run_underlying hu]
/-- an assertion to a pointer type that does not hold -/
theorem assert_miss {P : Program} {t u : TypeId} (hu : isPtr P u = true) (ht : t ≠ u) (hz : (P.info? u).map (·.zero) = some (some (.pointer none))) (v : Value) (xT : TypeId) (w : World) :
    (Instr.typeAssert (.iface t v) xT u true).run P w = .ok (.tuple #[.pointer none, .bool false]) w := by
  obtain ⟨e, hu⟩ := isPtr_iff hu
  obtain ⟨j, hj, hz'⟩ := Option.map_eq_some_iff.1 hz
  simp [Instr.typeAssert, run_underlying hu, ht, typeInfo, hj, zeroValue, hz']
theorem md_toPlain (t : TypeId) (v : Value) (w : World) (h1 : t ≠ 82) (h2 : t ≠ 120) (h3 : t ≠ 123) :
    Calls Try.prog 108 #[.iface t v] w fun e w' => e = .returned (.pointer none) ∧ w = w' := by
  have a1 : ∀ w, (Instr.typeAssert (.iface t v) 52 82 true).run Try.prog w = .ok (.tuple #[.pointer none, .bool false]) w := fun w => assert_miss (by kernel_rfl) h1 (by kernel_rfl) v _ w
  have a2 : ∀ w, (Instr.typeAssert (.iface t v) 52 120 true).run Try.prog w = .ok (.tuple #[.pointer none, .bool false]) w := fun w => assert_miss (by kernel_rfl) h2 (by kernel_rfl) v _ w
  have a3 : ∀ w, (Instr.typeAssert (.iface t v) 52 123 true).run Try.prog w = .ok (.tuple #[.pointer none, .bool false]) w := fun w => assert_miss (by kernel_rfl) h3 (by kernel_rfl) v _ w
  go_enter Try.func108, Try.ntmps108
  go_wp2_with (fail)
  go_ret
  exact ⟨rfl, rfl⟩
theorem md_ZZPlain (t : TypeId) (v : Value) (w : World) (h1 : t ≠ 82) (h2 : t ≠ 120) (h3 : t ≠ 123) :
    Calls Try.prog 103 #[.iface t v] w fun e w' => e = .returned (.pointer none) ∧ w = w' := by
  have H := Lib.hid (fun w => md_toPlain t v w h1 h2 h3)
  go_enter Try.func103, Try.ntmps103
  go_wp2_with (go_at_call 108; refine (H.out _).mono ?_; rintro e w' ⟨rfl, rfl⟩)
  go_ret
  exact ⟨rfl, rfl⟩
/-- a node of the thin package that has a kind, a text, and a mark 'escaped', and nothing else -/
def nodeCells (k : Int) (t : ByteArray) (esc : Bool) : Array Value := #[.int .i64 k, .string t, .string ⟨#[]⟩, .int .i64 0, .string ⟨#[]⟩, .bool false, .slice none 0 0, .slice none 0 0, .int .i64 0, .int .i64 0, .string ⟨#[]⟩, .int .i64 0, .bool false, .bool esc, .bool false, .slice none 0 0]
/-- .. as a value -/
def nodeOf (k : Int) (t : ByteArray) (esc : Bool) : Value := .agg (nodeCells k t esc)
set_option maxRecDepth 100000 in
theorem impl_inline_escaped (b : Nat) (t : ByteArray) (w : World) (hb : b < w.heap.size) (hc : w.cell? ⟨b, 0, none⟩ = some (.string t)) :
    Calls Try.prog 96 #[.iface 86 (.pointer (some ⟨b, 0, none⟩))] w fun e w' => e = .returned (nodeOf 20 t true) ∧ Below w.heap.size w w' := by
  have a1 : ∀ w, (Instr.typeAssert (.iface 86 (.pointer (some ⟨b, 0, none⟩))) 52 86 true).run Try.prog w = .ok (.tuple #[.pointer (some ⟨b, 0, none⟩), .bool true]) w := fun w => assert_hit (by kernel_rfl) _ _ w
  have H := Lib.hid (fun w => md_ZZPlain 86 (.pointer (some ⟨b, 0, none⟩)) w (by decide) (by decide) (by decide))
  go_enter Try.func96, Try.ntmps96
  go_wp2_with (go_at_call 103; refine (H.out _).mono ?_; rintro e w' ⟨rfl, rfl⟩)
  exact bodyPost_ret (v := nodeOf 20 t true) (by simp [results, go_sem, nodeOf, nodeCells]) rfl ⟨rfl, (Below.refl _ _).alloc (Nat.le_refl _) _⟩
set_option maxRecDepth 100000 in
theorem impl_inline_hard (v : Value) (w : World) :
    Calls Try.prog 96 #[.iface 90 v] w fun e w' => e = .returned (nodeOf 22 ⟨#[]⟩ false) ∧ Below w.heap.size w w' := by
  have a1 : ∀ w, (Instr.typeAssert (.iface 90 v) 52 86 true).run Try.prog w = .ok (.tuple #[.pointer none, .bool false]) w := fun w => assert_miss (by kernel_rfl) (by decide) (by kernel_rfl) _ _ w
  have a2 : ∀ w, (Instr.typeAssert (.iface 90 v) 52 89 true).run Try.prog w = .ok (.tuple #[.pointer none, .bool false]) w := fun w => assert_miss (by kernel_rfl) (by decide) (by kernel_rfl) _ _ w
  have a3 : ∀ w, (Instr.typeAssert (.iface 90 v) 52 90 true).run Try.prog w = .ok (.tuple #[v, .bool true]) w := fun w => assert_hit (by kernel_rfl) _ _ w
  have H := Lib.hid (fun w => md_ZZPlain 90 v w (by decide) (by decide) (by decide))
  go_enter Try.func96, Try.ntmps96
  go_wp2_with (go_at_call 103; refine (H.out _).mono ?_; rintro e w' ⟨rfl, rfl⟩)
  exact bodyPost_ret (v := nodeOf 22 ⟨#[]⟩ false) (by simp [results, go_sem, nodeOf, nodeCells]) rfl ⟨rfl, (Below.refl _ _).alloc (Nat.le_refl _) _⟩
end Go.Proofs.Ytigeaoijcjidbaa
