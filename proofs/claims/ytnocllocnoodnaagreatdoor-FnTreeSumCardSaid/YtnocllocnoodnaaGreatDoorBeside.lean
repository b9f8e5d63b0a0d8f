/- Rows of texts and of nodes beside each other: what one's growth leaves of the other. -/
import Derived.Test.YtnocllocnoodnaaGreatDoorLine
import Derived.Test.YtnocllocnoodnaaGreatDoorGivesAll
namespace Go.Proofs.YtnocllocnoodnaaGreatDoor
open Go.RowKit
theorem str_info : (Tryz.prog.info? 9).map (fun i => (i.zero, i.size, i.bytes)) = some (some (.string ⟨#[]⟩), 1, 16) := by kernel_rfl
theorem SameAll.setCell {e : TypeId} {lo : Nat} {w : World} {p : Addr} {v : Value} (h : p.block < lo ∨ ¬ Typed e p.block w) : SameAll e lo w (w.setCell p v) := fun k h1 h2 =>
  heap_setCell_other w p k v (fun hk => by
    rcases h with h | h
    · omega
    · exact h (hk ▸ h2))
theorem texts_grown {B b n m L : Nat} {v : Value} {w w' : World} (h : Texts B m L v w) (hb : Bld b n w) (hg : w.grownBy w' (some b)) : Texts B m L v w' := h.keep (SameAll.grownT hg hb.typed (by decide))
theorem texts_alloc {B m L : Nat} {v : Value} {w : World} (h : Texts B m L v w) (o : Obj) : Texts B m L v (w.alloc o) := h.keep (SameAll.alloc _ _ _ _)
theorem texts_nodes {α : Type} {Q : Nat → Nat → α → World → Prop} {cl : α → List Value} {B B' m L : Nat} {v o : Value} {css : List α} {w w' : World} (h : Texts B m L v w) (hn : Nodes Q cl B' css o w) (hg : w.grownBy w' o.ownBlock) : Texts B m L v w' :=
  h.keep (SameAll.grown hg fun _ hg => .inr fun ht => absurd (ht.one (own_typed hn.1 hg).1) (by decide))
theorem Texts.own {B m L : Nat} {v : Value} {w : World} (h : Texts B m L v w) {g : Nat} (hg : v.ownBlock = some g) : Typed 9 g w ∧ B ≤ g ∧ g < w.heap.size := by
  obtain ⟨ss, _, _, h⟩ := h
  exact own_typed h hg
theorem nodes_texts {α : Type} {Q : Nat → Nat → α → World → Prop} (hS : SayN Q) {cl : α → List Value} {B B' m L : Nat} {v o : Value} {css : List α} {w w' : World} (hn : Nodes Q cl B css o w) (h : Texts B' m L v w) (hg : w.grownBy w' v.ownBlock) : Nodes Q cl B css o w' :=
  hn.keep hS (SameAll.grown hg fun _ hg => .inr fun ht => absurd (ht.one (h.own hg).1) (by decide)) hg.size
theorem nodes_cell {α : Type} {Q : Nat → Nat → α → World → Prop} (hS : SayN Q) {cl : α → List Value} {B : Nat} {o : Value} {css : List α} {w : World} (hn : Nodes Q cl B css o w) {p : Addr} (hp : p.block < B) (v : Value) : Nodes Q cl B css o (w.setCell p v) :=
  hn.keep hS (SameAll.setCell (.inl hp)) (by simp)
theorem texts_cell {B m L : Nat} {v : Value} {w : World} (h : Texts B m L v w) {p : Addr} (hp : p.block < B) (u : Value) : Texts B m L v (w.setCell p u) := h.keep (SameAll.setCell (.inl hp))
/-- one more text -/
theorem texts_add {B m L n' cap g : Nat} {s : ByteArray} {ss : List ByteArray} {w3 : World} {xs' : List Value} (hl : ss.length = m) (hs : ∀ s ∈ ss, s.size ≤ L) (hz : s.size ≤ L) (hown : w3.ownsRow B 9 1 (.slice (some ⟨g, 0, none⟩) n' cap) n' xs') (hn : n' = m + 1) (hx : xs' = ss.map Value.string ++ [.string s]) : Texts B (m + 1) L (.slice (some ⟨g, 0, none⟩) n' cap) w3 := by
  subst hn hx
  refine ⟨ss ++ [s], by simp [hl], ?_, by simpa using hown⟩
  intro x hx
  rcases List.mem_append.1 hx with h | h
  · exact hs x h
  · rw [List.mem_singleton.1 h]; exact hz
theorem bld_cell {b n : Nat} {w : World} (h : Bld b n w) {p : Addr} (hp : b < p.block) (v : Value) : Bld b n (w.setCell p v) := h.keep fun j hj => heap_setCell_other w p j v (by omega)
theorem grown_cell {b : Nat} {w w' : World} (h : w.grownBy w' (some b)) {p : Addr} (hp : w.heap.size ≤ p.block) (v : Value) : w.grownBy (w'.setCell p v) (some b) :=
  ⟨h.os, h.tape, h.output, Nat.le_trans h.size (by simp), fun j hj hr => (heap_setCell_other w' p j v (by omega)).trans (h.block j hj hr)⟩
theorem bld_texts {b n B m L : Nat} {v : Value} {w w' : World} (h : Bld b n w) (ht : Texts B m L v w) (hg : w.grownBy w' v.ownBlock) (hB : b < B) : Bld b n w' := h.grown hg (fun _ hg => (ht.own hg).2.1) hB
theorem bld_nodes {α : Type} {Q : Nat → Nat → α → World → Prop} {cl : α → List Value} {b n B : Nat} {o : Value} {css : List α} {w w' : World} (h : Bld b n w) (ht : Nodes Q cl B css o w) (hg : w.grownBy w' o.ownBlock) (hB : b < B) : Bld b n w' := h.grown hg (fun g hg => (ht.1.lt g hg).1) hB
theorem texts_row {B m L : Nat} {v : Value} {w : World} (h : Texts B m L v w) (hm : 0 < m) : ∃ (g c : Nat) (ss : List ByteArray), v = .slice (some ⟨g, 0, none⟩) m c ∧ ss.length = m ∧ (∀ s ∈ ss, s.size ≤ L) ∧ B ≤ g ∧ g < w.heap.size ∧ RowAt 9 g (ss.map Value.string) w := by
  obtain ⟨ss, h1, h2, h3⟩ := h
  obtain ⟨g, c, h4, h5, h6, h7⟩ := owns_rowQ h3 hm
  exact ⟨g, c, ss, h4, h1, h2, h5, h6, h7⟩
/-- the total of the first k -/
theorem total_take {css : List (Array Value × Nat)} {k : Nat} (h : k < css.length) : total (css.take (k + 1)) = total (css.take k) + css[k].2 := by
  rw [List.take_succ_eq_append_getElem h, total_snoc]
theorem nodes_range {cl : List (Array Value × Nat)} {e : TypeId} {a q : Nat} {w : World} (h : RowAt e a (cl.flatMap inlC) w) (hs : ∀ c ∈ cl, c.1.size = 10) (hq : q < cl.length) : w.rangeAt a (q * 10) cl[q].1.toList := by
  have he : cl.flatMap inlC = (cl.map (·.1)).flatMap Array.toList := by rw [List.flatMap_map]; rfl
  rw [he] at h
  have := row_rangeN (m := 10) (k := q) h (fun c hc => by obtain ⟨x, hx, rfl⟩ := List.mem_map.1 hc; exact hs x hx) (by simpa using hq)
  simpa using this
theorem SameAll.setRow {e : TypeId} {lo g : Nat} {w : World} {cs : Array Value} (hg : g < lo) : SameAll e lo w (w.setRow g cs) := fun k h1 _ => setRow_other w g k cs (by omega)
theorem bld_row {b n g : Nat} {w : World} (h : Bld b n w) (hg : b < g) (cs : Array Value) : Bld b n (w.setRow g cs) := h.keep fun j hj => setRow_other w g j cs (by omega)
theorem grown_row {b g : Nat} {w w' : World} (h : w.grownBy w' (some b)) (hg : w.heap.size ≤ g) (cs : Array Value) : w.grownBy (w'.setRow g cs) (some b) :=
  ⟨h.os, h.tape, h.output, by simpa using h.size, fun j hj hr => (setRow_other w' g j cs (by omega)).trans (h.block j hj hr)⟩
/-- a store of a struct over a row, as a step of a region that draws -/
theorem wp_store_row {op : Oper} {a : Act} {w : World} {K : Act → World → Prop} {Q : Exit → Act → World → Prop} (ty : TypeId) (n b : Nat) (x y : Operand) (ho : op.op = .store ty x y)
    (hi : (Tryz.prog.info? ty).map (·.size) = some n) (old cells : Array Value) (hb : w.heap[b]? = some (.cells old ty)) (hold : old.size = n) (hx : a.eval x = .pointer (some ⟨b, 0, none⟩)) (hy : a.eval y = .agg cells)
    (hs : cells.size = n) (h1 : cells.all (·.oneCell') = true) (h : K (a.put op.dst undef) (w.setRow b cells)) : Oper.wp Tryz.prog op a w K Q := by
  have hst : (storeCells ⟨b, 0, none⟩ cells.toList).run Tryz.prog w = .ok () (w.setRow b cells) := by
    have := run_storeCells_from (P := Tryz.prog) b ty cells.toList 0 old w hb (by simp; omega) (fun v hv => (Array.all_eq_true_iff_forall_mem.1 h1) v (by simpa using hv))
    simpa using this
  obtain ⟨j, hi, hz1⟩ := Option.map_eq_some_iff.1 hi
  unfold Oper.wp execOp
  have hv : (storeVar ty ⟨b, 0, none⟩ (.agg cells)).run Tryz.prog w = .ok () (w.setRow b cells) := by
    simp [storeVar, sizeOf, typeInfo, hi, Value.cells, hs, hz1, hst]
  simp only [ho, hx, hy, Instr.storeAt, Instr.sureAddr, Sem.run_bind, Sem.run_pure, Result.andThen_ok, hv]
  exact h
theorem total_app (a b : List (Array Value × Nat)) : total (a ++ b) = total a + total b := by
  unfold total
  rw [List.map_append, List.sum_append]
theorem total_take_le (l : List (Array Value × Nat)) (k : Nat) : total (l.take k) ≤ total l := by
  have := total_app (l.take k) (l.drop k)
  rw [List.take_append_drop] at this
  omega
end Go.Proofs.YtnocllocnoodnaaGreatDoor
