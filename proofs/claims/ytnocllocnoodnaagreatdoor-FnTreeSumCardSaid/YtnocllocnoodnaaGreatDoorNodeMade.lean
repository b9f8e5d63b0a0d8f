/- Type assertions to pointers; the thin package's nodes: their cells, stored and loaded. -/
import Derived.Test.YtnocllocnoodnaaGreatDoorRows
import Derived.WalkKit
import Derived.WalkSpells
import Derived.WalkLawsBesides
import Derived.Laws.Rows
import Derived.Lib.Hide
import Derived.Test.YtnocllocnoodnaaGreatDoorPrintBoth
import Derived.Deep.AppendLies
import Derived.OwnWalk
namespace Go.Proofs.YtnocllocnoodnaaGreatDoor
open Go.RowKit
/-- the type is a pointer's -/
def isPtr (P : Program) (t : TypeId) : Bool := match P.underlying t with | some (.pointer _) => true | _ => false
theorem isPtr_iff {P : Program} {t : TypeId} (h : isPtr P t = true) : ∃ e, P.underlying t = some (.pointer e) := by
  unfold isPtr at h; split at h
  · exact ⟨_, by assumption⟩
  · cases h
/-- an assertion to a pointer type that holds -/
theorem assert_hit {P : Program} {t : TypeId} (hu : isPtr P t = true) (v : Value) (xT : TypeId) (w : World) :
    (Instr.typeAssert (.iface t v) xT t true).run P w = .ok (.tuple #[v, .bool true]) w := by
  obtain ⟨e, hu⟩ := isPtr_iff hu
  simp [Instr.typeAssert, run_underlying hu]
/-- an assertion to a pointer type that does not hold -/
theorem assert_miss {P : Program} {t u : TypeId} (hu : isPtr P u = true) (ht : t ≠ u) (hz : (P.info? u).map (·.zero) = some (some (.pointer none))) (v : Value) (xT : TypeId) (w : World) :
    (Instr.typeAssert (.iface t v) xT u true).run P w = .ok (.tuple #[.pointer none, .bool false]) w := by
  obtain ⟨e, hu⟩ := isPtr_iff hu
  obtain ⟨j, hj, hz'⟩ := Option.map_eq_some_iff.1 hz
  simp [Instr.typeAssert, run_underlying hu, ht, typeInfo, hj, zeroValue, hz']
/-- a node of the thin package that has a kind, a text, and a mark 'escaped', and nothing else -/
def nodeCells (k : Int) (t : ByteArray) (esc : Bool) : Array Value := #[.int .i64 k, .string t, .string ⟨#[]⟩, .int .i64 0, .string ⟨#[]⟩, .bool false, .slice none 0 0, .slice none 0 0, .int .i64 0, .int .i64 0, .string ⟨#[]⟩, .int .i64 0, .bool false, .bool esc, .bool false, .slice none 0 0]
/-- .. as a value -/
def nodeOf (k : Int) (t : ByteArray) (esc : Bool) : Value := .agg (nodeCells k t esc)
theorem bel_two {B : Nat} {w a b : World} (h : Below B w a) (k : Below a.heap.size a b) (hB : B ≤ w.heap.size) : Below B w b := h.trans (k.mono (Nat.le_trans hB h.size))
theorem nodeCells_size (k : Int) (t : ByteArray) (esc : Bool) : (nodeCells k t esc).size = 16 := rfl
theorem nodeCells_one (k : Int) (t : ByteArray) (esc : Bool) : (nodeCells k t esc).all (·.oneCell') = true := by simp [nodeCells, Value.oneCell']
/-- the type is a struct's, of so many cells -/
def isStruct (P : Program) (t : TypeId) (n : Nat) : Bool := (match P.underlying t with | some (.struct _) => true | _ => false) && (P.info? t).map (·.size) == some n
theorem load_struct {P : Program} {ty : TypeId} {n : Nat} (h : isStruct P ty n = true) (w : World) (g : Nat) (t : TypeId) (cs : Array Value) (fr : Nat × Nat) (hg : w.heap[g]? = some (.cells cs t fr)) (hn : cs.size = n) :
    (loadVar ty ⟨g, 0, none⟩).run P w = .ok (.agg cs) w := by
  unfold isStruct at h
  rw [Bool.and_eq_true, beq_iff_eq] at h
  obtain ⟨h1, h2⟩ := h
  cases hu : P.underlying ty with
  | none => rw [hu] at h1; cases h1
  | some d =>
    rw [hu] at h1
    refine run_loadVar_row w g t ty cs fr d hg hu ?_ (by rw [h2, hn])
    cases d <;> first | rfl | cases h1
theorem row_kept {B : Nat} {w w' : World} (h : Below B w w') {g : Nat} {o : Obj} (hg : w.heap[g]? = some o) (hB : g < B) : w'.heap[g]? = some o := (h.block g hB).trans hg
theorem bel_setRow {B : Nat} {w w' : World} (h : Below B w w') {g : Nat} (hB : B ≤ g) (cs : Array Value) : Below B w (w'.setRow g cs) :=
  ⟨h.os, h.tape, h.output, by simpa using h.size, fun b hb => (setRow_other w' g b cs (by omega)).trans (h.block b hb)⟩
theorem store_node (cs : Array Value) (hn : cs.size = 16) (h1 : cs.all (·.oneCell') = true) (w : World) (g : Nat) (old : Array Value) (hg : w.heap[g]? = some (.cells old 33 (0, 0))) (ho : old.size = 16) :
    (storeCells ⟨g, 0, none⟩ cs.toList).run Tryz.prog w = .ok () (w.setRow g cs) := by
  have := run_storeCells_from (P := Tryz.prog) g 33 cs.toList 0 old w hg (by simp; omega) (fun v hv => (Array.all_eq_true_iff_forall_mem.1 h1) v (by simpa using hv))
  simpa using this
end Go.Proofs.YtnocllocnoodnaaGreatDoor
namespace Go.Proofs.YtnocllocnoodnaaGreatDoor
open Go.RowKit
/-- what is said of an element stands as long as the blocks from lo to hi stand; it may be said of more blocks -/
structure Sayable {α : Type} (Q : Nat → Nat → Nat → α → World → Prop) : Prop where
  keep : ∀ i lo hi c (w1 w2 : World), Q i lo hi c w1 → (∀ b, lo ≤ b → b < hi → w2.heap[b]? = w1.heap[b]?) → Q i lo hi c w2
  wide : ∀ i lo hi lo' hi' c w, Q i lo hi c w → lo' ≤ lo → hi ≤ hi' → Q i lo' hi' c w
/-- the slice o owns these elements; of each is said what is to be said, in blocks from B on that are not the slice's -/
def Made {α : Type} (Q : Nat → Nat → Nat → α → World → Prop) (cl : α → List Value) (e : TypeId) (sz B : Nat) (css : List α) (o : Value) (w : World) : Prop :=
  w.ownsRow B e sz o css.length (css.flatMap cl) ∧ ∀ j (h : j < css.length), ∃ lo hi, B ≤ lo ∧ hi ≤ w.heap.size ∧ Q j lo hi css[j] w ∧ ∀ g, o.ownBlock = some g → g < lo ∨ hi ≤ g
theorem Made.nil {α : Type} (Q : Nat → Nat → Nat → α → World → Prop) (cl : α → List Value) (e : TypeId) (sz B : Nat) (w : World) : Made Q cl e sz B [] (.slice none 0 0) w :=
  ⟨World.ownsRow_nil _ _ _ _, fun _ h => absurd h (Nat.not_lt_zero _)⟩
theorem owns_below {w w' : World} {B : Nat} {e : TypeId} {sz n : Nat} {v : Value} {xs : List Value} (h : w.ownsRow B e sz v n xs) (hb : Below w.heap.size w w') : w'.ownsRow B e sz v n xs := by
  refine ⟨h.1, h.2.imp_right ?_⟩
  rintro ⟨g, cap, cur, h1, h2, h3, h4⟩
  exact ⟨g, cap, cur, h1, h2, (hb.block g (Array.getElem?_eq_some_iff.1 h3).1).trans h3, h4⟩
theorem Made.step {α : Type} {Q : Nat → Nat → Nat → α → World → Prop} (hS : Sayable Q) {cl : α → List Value} {e : TypeId} {sz B : Nat} {css : List α} {o : Value} {w w2 w3 : World} {c : α} {ob : Obj} {g n' cap : Nat} {xs' : List Value}
    (hm : Made Q cl e sz B css o w) (hB : B ≤ w.heap.size) (hb : Below w.heap.size w w2) (hq : Q css.length w.heap.size w2.heap.size c w2)
    (hown : w3.ownsRow B e sz (.slice (some ⟨g, 0, none⟩) n' cap) n' xs') (hn : n' = css.length + 1) (hx : xs' = css.flatMap cl ++ cl c)
    (hgrow : (w2.alloc ob).grownBy w3 o.ownBlock) (hat : o.ownBlock = some g ∨ g = w2.heap.size + 1) :
    Made Q cl e sz B (css ++ [c]) (.slice (some ⟨g, 0, none⟩) n' cap) w3 := by
  subst hn hx
  have hs2 := hb.size
  have hs3 := hgrow.size
  have hal : (w2.alloc ob).heap.size = w2.heap.size + 1 := by simp
  rw [hal] at hs3
  refine ⟨by simpa using hown, ?_⟩
  intro j hj
  have hstep : ∀ b, b < w2.heap.size → some b ≠ o.ownBlock → w3.heap[b]? = w2.heap[b]? := by
    intro b h1 h2
    rw [hgrow.block b (by simp; omega) h2]
    exact heap_alloc_old w2 _ h1
  have hg : ∀ g', o.ownBlock = some g' → g' < w.heap.size := fun g' h' => (hm.1.lt g' h').2
  rcases Nat.lt_or_ge j css.length with h | h
  · obtain ⟨lo, hi, h1, h2, h3, h4⟩ := hm.2 j h
    refine ⟨lo, hi, h1, by omega, ?_, ?_⟩
    · rw [List.getElem_append_left h]
      refine hS.keep _ _ _ _ _ _ h3 ?_
      intro b hb1 hb2
      rw [hstep b (by omega) (by
        intro hh
        rcases h4 b hh.symm with h5 | h5 <;> omega)]
      exact hb.block b (by omega)
    · intro g' hg'
      have : g' = g := by simpa [Value.ownBlock] using hg'.symm
      subst this
      rcases hat with h5 | h5
      · exact h4 _ h5
      · right; omega
  · have hjj : j = css.length := by simp at hj; omega
    subst hjj
    refine ⟨w.heap.size, w2.heap.size, hB, by omega, ?_, ?_⟩
    · rw [List.getElem_append_right (Nat.le_refl _)]
      simp only [Nat.sub_self, List.getElem_cons_zero]
      refine hS.keep _ _ _ _ _ _ hq ?_
      intro b hb1 hb2
      exact hstep b hb2 (by intro hh; have := hg b hh.symm; omega)
    · intro g' hg'
      have : g' = g := by simpa [Value.ownBlock] using hg'.symm
      subst this
      rcases hat with h5 | h5
      · exact .inl (hg _ h5)
      · right; omega
/-- behind the call: the frame -/
theorem grown_below {B : Nat} {w0 w w2 w3 : World} {ob : Obj} {o : Value} {e : TypeId} {sz n : Nat} {xs : List Value} (h : Below B w0 w) (hown : w.ownsRow B e sz o n xs) (hB : B ≤ w.heap.size) (hb : Below w.heap.size w w2) (hgrow : (w2.alloc ob).grownBy w3 o.ownBlock) : Below B w0 w3 := by
  have h2 : Below B w0 w2 := h.trans (hb.mono hB)
  have h3 : Below B w0 (w2.alloc ob) := h2.alloc (Nat.le_trans hB hb.size) _
  have hs3 := hgrow.size
  refine ⟨hgrow.os.trans h3.os, hgrow.tape.trans h3.tape, hgrow.output.trans h3.output, Nat.le_trans h3.size hs3, ?_⟩
  intro b hb'
  rw [hgrow.block b (by have := hb.size; simp; omega) (by intro hh; have := (hown.lt b hh.symm).1; omega)]
  exact h3.block b hb'
end Go.Proofs.YtnocllocnoodnaaGreatDoor
namespace Go.Proofs.YtnocllocnoodnaaGreatDoor
open Go.RowKit
def NlEnd (l : List UInt8) : Prop := l = [] ∨ l.getLast? = some 10
def Any (_ : List UInt8) : Prop := True
/-- a text of a block: it ends in a line feed -/
def NlT (l : List UInt8) : Prop := l.getLast? = some 10
theorem nl_app (l : List UInt8) {m : List UInt8} (h : NlT m) : NlEnd (l ++ m) := by
  right
  unfold NlT at h
  rw [List.getLast?_append, h]; rfl
def sumT (Ts : Nat → List UInt8) : Nat → List UInt8
  | 0 => []
  | n + 1 => sumT Ts n ++ Ts n
theorem sumT_mono (Ts : Nat → List UInt8) {k n : Nat} (h : k ≤ n) : (sumT Ts k).length ≤ (sumT Ts n).length := by
  induction h with
  | refl => exact Nat.le_refl _
  | step _ ih => simp only [sumT, List.length_append]; omega
theorem nl_sum {l : List UInt8} {Ts : Nat → List UInt8} (hl : NlEnd l) : ∀ {k : Nat}, (∀ i, i < k → NlT (Ts i)) → NlEnd (l ++ sumT Ts k)
  | 0, _ => by simpa [sumT] using hl
  | k + 1, h => by
    rw [sumT, ← List.append_assoc]
    exact nl_app _ (h k (by omega))
/-- the function is entered -/
def Enters (f : FuncId) : Prop := ∀ args w', (callFunc f args).run Tryz.prog w' = .ok (.enter f args) w'
theorem enters_of {f : FuncId} {fn : Func} (hf : Tryz.prog.funcs[f]? = some fn) (hname : (fn.name == "runtime.NumGoroutine") = false) (hb : fn.body.isNone = false) : Enters f := by
  intro args w'
  have h1 : fn.name ≠ "runtime.NumGoroutine" := by simpa using hname
  obtain ⟨c, hc⟩ : ∃ c, fn.body = some c := by
    cases h : fn.body with
    | none => rw [h] at hb; cases hb
    | some c => exact ⟨c, rfl⟩
  simp [callFunc, hf, h1, hc]
/-- the interface value's PrintHTML, called with the buffer, appends the text -/
def PrintCall (T : List UInt8) (B b : Nat) (l : List UInt8) (v : Value) (w : World) : Prop :=
  ∃ t p f, v = .iface t (.pointer (some p)) ∧ (∀ w', (method 327 t (.pointer (some p)) "PrintHTML").run Tryz.prog w' = .ok (f, .pointer (some p)) w') ∧ Enters f ∧
    Calls Tryz.prog f #[.pointer (some p), .pointer (some ⟨b, 0, none⟩)] w (Wrote B b l T w)
/-- the function, called on this place with a buffer, appends the text: in any world that has the blocks from lo to hi as this one has them -/
def PrintsBy (pre : List UInt8 → Prop) (f : FuncId) (p : Addr) (T : List UInt8) (lo hi : Nat) (w : World) : Prop :=
  ∀ w' B b l, (∀ k, lo ≤ k → k < hi → w'.heap[k]? = w.heap[k]?) → hi ≤ B → B ≤ w'.heap.size → Buf B b l w' → l.length + T.length ≤ 1000000 → pre l → Calls Tryz.prog f #[.pointer (some p), .pointer (some ⟨b, 0, none⟩)] w' (Wrote B b l T w')
/-- .. of an interface value -/
def Prints (pre : List UInt8 → Prop) (T : List UInt8) (lo hi : Nat) (v : Value) (w : World) : Prop :=
  ∃ t p f, v = .iface t (.pointer (some p)) ∧ (∀ w', (method 327 t (.pointer (some p)) "PrintHTML").run Tryz.prog w' = .ok (f, .pointer (some p)) w') ∧ Enters f ∧ PrintsBy pre f p T lo hi w
theorem PrintsBy.keep {pre : List UInt8 → Prop} {f : FuncId} {p : Addr} {T : List UInt8} {lo hi : Nat} {w1 w2 : World} (h : PrintsBy pre f p T lo hi w1) (hb : ∀ b, lo ≤ b → b < hi → w2.heap[b]? = w1.heap[b]?) : PrintsBy pre f p T lo hi w2 :=
  fun w' B b l hag => h w' B b l (fun k hk1 hk2 => (hag k hk1 hk2).trans (hb k hk1 hk2))
theorem PrintsBy.wide {pre : List UInt8 → Prop} {f : FuncId} {p : Addr} {T : List UInt8} {lo hi lo' hi' : Nat} {w : World} (h : PrintsBy pre f p T lo hi w) (hl : lo' ≤ lo) (hh : hi ≤ hi') : PrintsBy pre f p T lo' hi' w :=
  fun w' B b l hag hB => h w' B b l (fun k hk1 hk2 => hag k (by omega) (by omega)) (by omega)
theorem Prints.call {pre : List UInt8 → Prop} {T : List UInt8} {lo hi : Nat} {v : Value} {w w' : World} (h : Prints pre T lo hi v w) {B b : Nat} {l : List UInt8} (hag : ∀ k, lo ≤ k → k < hi → w'.heap[k]? = w.heap[k]?) (hB : hi ≤ B) (hBw : B ≤ w'.heap.size) (hb : Buf B b l w') (hl : l.length + T.length ≤ 1000000) (hp : pre l) : PrintCall T B b l v w' := by
  obtain ⟨t, p, f, h1, h2, he, h3⟩ := h
  exact ⟨t, p, f, h1, h2, he, h3 w' B b l hag hB hBw hb hl hp⟩
theorem Prints.keep {pre : List UInt8 → Prop} {T : List UInt8} {lo hi : Nat} {v : Value} {w1 w2 : World} (h : Prints pre T lo hi v w1) (hb : ∀ b, lo ≤ b → b < hi → w2.heap[b]? = w1.heap[b]?) : Prints pre T lo hi v w2 := by
  obtain ⟨t, p, f, h1, h2, he, h3⟩ := h
  exact ⟨t, p, f, h1, h2, he, h3.keep hb⟩
theorem Prints.wide {pre : List UInt8 → Prop} {T : List UInt8} {lo hi lo' hi' : Nat} {v : Value} {w : World} (h : Prints pre T lo hi v w) (hl : lo' ≤ lo) (hh : hi ≤ hi') : Prints pre T lo' hi' v w := by
  obtain ⟨t, p, f, h1, h2, he, h3⟩ := h
  exact ⟨t, p, f, h1, h2, he, h3.wide hl hh⟩
theorem prints_sayable (pre : List UInt8 → Prop) (Ts : Nat → List UInt8) : Sayable (fun i => Prints pre (Ts i)) where
  keep := fun _ _ _ _ _ _ h hb => h.keep hb
  wide := fun _ _ _ _ _ _ _ h hl hh => h.wide hl hh
/-- a slice of such values -/
def RowPrints (pre : List UInt8 → Prop) (e : TypeId) (Ts : Nat → List UInt8) (n lo hi : Nat) (s : Value) (w : World) : Prop :=
  ∃ a c vs, s = .slice (some ⟨a, 0, none⟩) n c ∧ vs.length = n ∧ n ≤ 1000 ∧ lo ≤ a ∧ a < hi ∧ RowAt e a vs w ∧ ∀ i (h : i < vs.length), Prints pre (Ts i) lo hi vs[i] w
theorem RowAt.of {e : TypeId} {g : Nat} {xs : List Value} {w1 w2 : World} (h : RowAt e g xs w1) (hb : w2.heap[g]? = w1.heap[g]?) : RowAt e g xs w2 := by unfold RowAt at *; rw [hb]; exact h
theorem RowPrints.keep {pre : List UInt8 → Prop} {e : TypeId} {Ts : Nat → List UInt8} {n lo hi : Nat} {s : Value} {w1 w2 : World} (h : RowPrints pre e Ts n lo hi s w1) (hb : ∀ b, lo ≤ b → b < hi → w2.heap[b]? = w1.heap[b]?) : RowPrints pre e Ts n lo hi s w2 := by
  obtain ⟨a, c, vs, h1, h2, h3, h4, h5, h6, h7⟩ := h
  exact ⟨a, c, vs, h1, h2, h3, h4, h5, h6.of (hb a h4 h5), fun i hi => (h7 i hi).keep hb⟩
end Go.Proofs.YtnocllocnoodnaaGreatDoor
