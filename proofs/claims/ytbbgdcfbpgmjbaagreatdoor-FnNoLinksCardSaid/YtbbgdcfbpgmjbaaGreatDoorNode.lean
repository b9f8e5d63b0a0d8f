/- Type assertions to pointers; the thin package's nodes: their cells, stored and loaded. -/
import Derived.Test.YtbbgdcfbpgmjbaaGreatDoorRows
import Derived.WalkKit
import Derived.WalkSpells
import Derived.WalkLawsBesides
import Derived.Laws.Rows
import Derived.Lib.Hide
namespace Go.Proofs.YtbbgdcfbpgmjbaaGreatDoor
open Go.RowKit
/-- the type is a pointer's -/
def isPtr (P : Program) (t : TypeId) : Bool := match P.underlying t with | some (.pointer _) => true | _ => false
theorem isPtr_iff {P : Program} {t : TypeId} (h : isPtr P t = true) : ∃ e, P.underlying t = some (.pointer e) := by
  unfold isPtr at h; split at h
  · exact ⟨_, by assumption⟩
  · cases h
/-- an assertion to a pointer type that holds -/
theorem assert_hit {P : Program} {t : TypeId} (hu : isPtr P t = true) (v : Value) (xT : TypeId) (w : World) :
    (Instr.typeAssert (.iface t v) xT t true).run P w = .ok (.tuple #[v, .bool true]) w := by
  obtain ⟨e, hu⟩ := isPtr_iff hu
  simp [Instr.typeAssert, run_underlying hu]
/-- an assertion to a pointer type that does not hold -/
theorem assert_miss {P : Program} {t u : TypeId} (hu : isPtr P u = true) (ht : t ≠ u) (hz : (P.info? u).map (·.zero) = some (some (.pointer none))) (v : Value) (xT : TypeId) (w : World) :
    (Instr.typeAssert (.iface t v) xT u true).run P w = .ok (.tuple #[.pointer none, .bool false]) w := by
  obtain ⟨e, hu⟩ := isPtr_iff hu
  obtain ⟨j, hj, hz'⟩ := Option.map_eq_some_iff.1 hz
  simp [Instr.typeAssert, run_underlying hu, ht, typeInfo, hj, zeroValue, hz']
theorem md_toPlain (t : TypeId) (v : Value) (w : World) (h1 : t ≠ 51) (h2 : t ≠ 115) (h3 : t ≠ 118) :
    Calls Tryz.prog 26 #[.iface t v] w fun e w' => e = .returned (.pointer none) ∧ w = w' := by
  have a1 : ∀ w, (Instr.typeAssert (.iface t v) 34 51 true).run Tryz.prog w = .ok (.tuple #[.pointer none, .bool false]) w := fun w => assert_miss (by kernel_rfl) h1 (by kernel_rfl) v _ w
  have a2 : ∀ w, (Instr.typeAssert (.iface t v) 34 115 true).run Tryz.prog w = .ok (.tuple #[.pointer none, .bool false]) w := fun w => assert_miss (by kernel_rfl) h2 (by kernel_rfl) v _ w
  have a3 : ∀ w, (Instr.typeAssert (.iface t v) 34 118 true).run Tryz.prog w = .ok (.tuple #[.pointer none, .bool false]) w := fun w => assert_miss (by kernel_rfl) h3 (by kernel_rfl) v _ w
  go_enter Tryz.func26, Tryz.ntmps26
  go_wp2_with (fail)
  go_ret
  exact ⟨rfl, rfl⟩
theorem md_ZZPlain (t : TypeId) (v : Value) (w : World) (h1 : t ≠ 51) (h2 : t ≠ 115) (h3 : t ≠ 118) :
    Calls Tryz.prog 19 #[.iface t v] w fun e w' => e = .returned (.pointer none) ∧ w = w' := by
  have H := Lib.hid (fun w => md_toPlain t v w h1 h2 h3)
  go_enter Tryz.func19, Tryz.ntmps19
  go_wp2_with (go_at_call 26; refine (H.out _).mono ?_; rintro e w' ⟨rfl, rfl⟩)
  go_ret
  exact ⟨rfl, rfl⟩
/-- a node of the thin package that has a kind, a text, and a mark 'escaped', and nothing else -/
def nodeCells (k : Int) (t : ByteArray) (esc : Bool) : Array Value := #[.int .i64 k, .string t, .string ⟨#[]⟩, .int .i64 0, .string ⟨#[]⟩, .bool false, .slice none 0 0, .slice none 0 0, .int .i64 0, .int .i64 0, .string ⟨#[]⟩, .int .i64 0, .bool false, .bool esc, .bool false, .slice none 0 0]
/-- .. as a value -/
def nodeOf (k : Int) (t : ByteArray) (esc : Bool) : Value := .agg (nodeCells k t esc)
theorem bel_two {B : Nat} {w a b : World} (h : Below B w a) (k : Below a.heap.size a b) (hB : B ≤ w.heap.size) : Below B w b := h.trans (k.mono (Nat.le_trans hB h.size))
theorem nodeCells_size (k : Int) (t : ByteArray) (esc : Bool) : (nodeCells k t esc).size = 16 := rfl
theorem nodeCells_one (k : Int) (t : ByteArray) (esc : Bool) : (nodeCells k t esc).all (·.oneCell') = true := by simp [nodeCells, Value.oneCell']
/-- the type is a struct's, of so many cells -/
def isStruct (P : Program) (t : TypeId) (n : Nat) : Bool := (match P.underlying t with | some (.struct _) => true | _ => false) && (P.info? t).map (·.size) == some n
theorem load_struct {P : Program} {ty : TypeId} {n : Nat} (h : isStruct P ty n = true) (w : World) (g : Nat) (t : TypeId) (cs : Array Value) (fr : Nat × Nat) (hg : w.heap[g]? = some (.cells cs t fr)) (hn : cs.size = n) :
    (loadVar ty ⟨g, 0, none⟩).run P w = .ok (.agg cs) w := by
  unfold isStruct at h
  rw [Bool.and_eq_true, beq_iff_eq] at h
  obtain ⟨h1, h2⟩ := h
  cases hu : P.underlying ty with
  | none => rw [hu] at h1; cases h1
  | some d =>
    rw [hu] at h1
    refine run_loadVar_row w g t ty cs fr d hg hu ?_ (by rw [h2, hn])
    cases d <;> first | rfl | cases h1
theorem row_kept {B : Nat} {w w' : World} (h : Below B w w') {g : Nat} {o : Obj} (hg : w.heap[g]? = some o) (hB : g < B) : w'.heap[g]? = some o := (h.block g hB).trans hg
theorem bel_setRow {B : Nat} {w w' : World} (h : Below B w w') {g : Nat} (hB : B ≤ g) (cs : Array Value) : Below B w (w'.setRow g cs) :=
  ⟨h.os, h.tape, h.output, by simpa using h.size, fun b hb => (setRow_other w' g b cs (by omega)).trans (h.block b hb)⟩
theorem store_node (cs : Array Value) (hn : cs.size = 16) (h1 : cs.all (·.oneCell') = true) (w : World) (g : Nat) (old : Array Value) (hg : w.heap[g]? = some (.cells old 38 (0, 0))) (ho : old.size = 16) :
    (storeCells ⟨g, 0, none⟩ cs.toList).run Tryz.prog w = .ok () (w.setRow g cs) := by
  have := run_storeCells_from (P := Tryz.prog) g 38 cs.toList 0 old w hg (by simp; omega) (fun v hv => (Array.all_eq_true_iff_forall_mem.1 h1) v (by simpa using hv))
  simpa using this
end Go.Proofs.YtbbgdcfbpgmjbaaGreatDoor
