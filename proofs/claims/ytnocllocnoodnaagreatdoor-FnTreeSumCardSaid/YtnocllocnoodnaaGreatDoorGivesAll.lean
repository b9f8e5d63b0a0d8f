/- Nodes of the reference in memory; what 'given' turns them to. -/
import Derived.Test.YtnocllocnoodnaaGreatDoorDoc
import Derived.Deep.RegionHeld3
import Derived.StillTail
namespace Go.Proofs.YtnocllocnoodnaaGreatDoor
open Go.RowKit
/-- the cells of a node of the reference -/
def spcG (k : Int) (t ti : ByteArray) (nu : Int) (ch : ByteArray) (lb : Bool) (ks : Value) (fr tl : Int) : Array Value := #[.int .i64 k, .string t, .string ti, .int .i64 nu, .string ch, .bool lb, .slice none 0 0, ks, .int .i64 fr, .int .i64 tl]
/-- a slice of nodes: nil, or a row's -/
def KidsV (ks : Value) : Prop := ks = .slice none 0 0 ∨ ∃ a n c, ks = .slice (some ⟨a, 0, none⟩) n c
theorem spcG_one (k : Int) (t ti : ByteArray) (nu : Int) (ch : ByteArray) (lb : Bool) {ks : Value} (h : KidsV ks) (fr tl : Int) : (spcG k t ti nu ch lb ks fr tl).all (·.oneCell') = true := by
  rcases h with rfl | ⟨a, n, c, rfl⟩ <;> simp [spcG, Value.oneCell']
/-- block k holds a row of elements of this type -/
def Typed (e : TypeId) (k : Nat) (w : World) : Prop := ∃ cs m, w.heap[k]? = some (.cells cs e m)
theorem Typed.lt {e : TypeId} {k : Nat} {w : World} (h : Typed e k w) : k < w.heap.size := by
  obtain ⟨cs, m, h⟩ := h
  exact (Array.getElem?_eq_some_iff.1 h).1
theorem Typed.one {e f : TypeId} {k : Nat} {w : World} (h : Typed e k w) (g : Typed f k w) : e = f := by
  obtain ⟨cs, m, h⟩ := h
  obtain ⟨cs', m', g⟩ := g
  rw [h] at g
  simp at g
  exact g.2.1
/-- the blocks of this type from lo to hi are as they were -/
def Same (e : TypeId) (lo hi : Nat) (w w' : World) : Prop := ∀ k, lo ≤ k → k < hi → Typed e k w → w'.heap[k]? = w.heap[k]?
theorem Same.refl (e : TypeId) (lo hi : Nat) (w : World) : Same e lo hi w w := fun _ _ _ _ => rfl
theorem Same.trans {e : TypeId} {lo hi : Nat} {a b c : World} (h : Same e lo hi a b) (g : Same e lo hi b c) : Same e lo hi a c := fun k h1 h2 h3 =>
  (g k h1 h2 (by obtain ⟨cs, m, h3'⟩ := h3; exact ⟨cs, m, (h k h1 h2 ⟨cs, m, h3'⟩).trans h3'⟩)).trans (h k h1 h2 h3)
theorem Same.less {e : TypeId} {lo hi lo' hi' : Nat} {a b : World} (h : Same e lo hi a b) (h1 : lo ≤ lo') (h2 : hi' ≤ hi) : Same e lo' hi' a b := fun k g1 g2 => h k (by omega) (by omega)
theorem Same.typed {e : TypeId} {lo hi k : Nat} {a b : World} (h : Same e lo hi a b) (h1 : lo ≤ k) (h2 : k < hi) (g : Typed e k a) : Typed e k b := by
  obtain ⟨cs, m, g'⟩ := g
  exact ⟨cs, m, (h k h1 h2 ⟨cs, m, g'⟩).trans g'⟩
/-- all blocks of this type from lo on -/
def SameAll (e : TypeId) (lo : Nat) (w w' : World) : Prop := ∀ k, lo ≤ k → Typed e k w → w'.heap[k]? = w.heap[k]?
theorem SameAll.refl (e : TypeId) (lo : Nat) (w : World) : SameAll e lo w w := fun _ _ _ => rfl
theorem SameAll.same {e : TypeId} {lo : Nat} {a b : World} (h : SameAll e lo a b) (hi : Nat) : Same e lo hi a b := fun k h1 _ => h k h1
theorem SameAll.trans {e : TypeId} {lo : Nat} {a b c : World} (h : SameAll e lo a b) (g : SameAll e lo b c) : SameAll e lo a c := fun k h1 h3 =>
  (g k h1 (by obtain ⟨cs, m, h3'⟩ := h3; exact ⟨cs, m, (h k h1 ⟨cs, m, h3'⟩).trans h3'⟩)).trans (h k h1 h3)
theorem SameAll.less {e : TypeId} {lo lo' : Nat} {a b : World} (h : SameAll e lo a b) (h1 : lo ≤ lo') : SameAll e lo' a b := fun k g1 => h k (by omega)
theorem SameAll.alloc (e : TypeId) (lo : Nat) (w : World) (o : Obj) : SameAll e lo w (w.alloc o) := fun _ _ h => heap_alloc_old w o h.lt
/-- only a block of another type, or one below, has been changed -/
theorem SameAll.grown {e : TypeId} {lo : Nat} {w w' : World} {r : Option Nat} (h : w.grownBy w' r) (hr : ∀ g, r = some g → g < lo ∨ ¬ Typed e g w) : SameAll e lo w w' := fun k h1 h2 =>
  h.block k h2.lt (fun hk => by
    rcases hr k hk.symm with h3 | h3
    · omega
    · exact h3 h2)
theorem SameAll.grownT {e f : TypeId} {lo b : Nat} {w w' : World} (h : w.grownBy w' (some b)) (hb : Typed f b w) (hne : e ≠ f) : SameAll e lo w w' :=
  SameAll.grown h fun g hg => .inr fun ht => hne (by cases hg; exact ht.one hb)
theorem own_typed {w : World} {B : Nat} {e : TypeId} {sz n : Nat} {v : Value} {xs : List Value} (h : w.ownsRow B e sz v n xs) {g : Nat} (hg : v.ownBlock = some g) : Typed e g w ∧ B ≤ g ∧ g < w.heap.size := by
  refine ⟨?_, h.lt g hg⟩
  rcases h.2 with ⟨rfl, _⟩ | ⟨g', cap, cur, rfl, _, h2, _⟩
  · cases hg
  · cases hg; exact ⟨cur, _, h2⟩
theorem own_same {w w' : World} {B : Nat} {e : TypeId} {sz n : Nat} {v : Value} {xs : List Value} (h : w.ownsRow B e sz v n xs) (hs : SameAll e B w w') : w'.ownsRow B e sz v n xs := by
  refine ⟨h.1, h.2.imp_right ?_⟩
  rintro ⟨g, cap, cur, h1, h2, h3, h4⟩
  exact ⟨g, cap, cur, h1, h2, (hs g h2 ⟨cur, _, h3⟩).trans h3, h4⟩
/-- what is said of an element stands as long as the nodes from lo to hi stand; it may be said of more blocks -/
structure SayN {α : Type} (Q : Nat → Nat → α → World → Prop) : Prop where
  keep : ∀ lo hi c (w1 w2 : World), Q lo hi c w1 → Same 27 lo hi w1 w2 → w1.heap.size ≤ w2.heap.size → Q lo hi c w2
  wide : ∀ lo hi lo' hi' c w, Q lo hi c w → lo' ≤ lo → hi ≤ hi' → Q lo' hi' c w
/-- a slice of nodes of the reference owns these elements; of each is said what is to be said, in blocks from B on that are not the slice's -/
def Nodes {α : Type} (Q : Nat → Nat → α → World → Prop) (cl : α → List Value) (B : Nat) (css : List α) (o : Value) (w : World) : Prop :=
  w.ownsRow B 27 10 o css.length (css.flatMap cl) ∧ ∀ c ∈ css, ∃ lo hi, B ≤ lo ∧ hi ≤ w.heap.size ∧ Q lo hi c w ∧ ∀ g, o.ownBlock = some g → g < lo ∨ hi ≤ g
theorem Nodes.nil {α : Type} (Q : Nat → Nat → α → World → Prop) (cl : α → List Value) (B : Nat) (w : World) : Nodes Q cl B [] (.slice none 0 0) w :=
  ⟨World.ownsRow_nil _ _ _ _, fun _ h => absurd h List.not_mem_nil⟩
theorem Nodes.keep {α : Type} {Q : Nat → Nat → α → World → Prop} (hS : SayN Q) {cl : α → List Value} {B : Nat} {css : List α} {o : Value} {w w' : World} (h : Nodes Q cl B css o w) (hs : SameAll 27 B w w') (hz : w.heap.size ≤ w'.heap.size) : Nodes Q cl B css o w' := by
  refine ⟨own_same h.1 hs, ?_⟩
  intro c hc
  obtain ⟨lo, hi, h1, h2, h3, h4⟩ := h.2 c hc
  exact ⟨lo, hi, h1, Nat.le_trans h2 hz, hS.keep _ _ _ _ _ h3 ((hs.same hi).less h1 (Nat.le_refl _)) hz, h4⟩
/-- one more node -/
theorem Nodes.add {α : Type} {Q : Nat → Nat → α → World → Prop} (hS : SayN Q) {cl : α → List Value} {B : Nat} {css : List α} {o : Value} {w w3 : World} {c : α} {ob : Obj} {g n' cap lo hi : Nat} {xs' : List Value}
    (hm : Nodes Q cl B css o w) (hq : Q lo hi c w) (hlo : B ≤ lo) (hhi : hi ≤ w.heap.size) (ho : ∀ g, o.ownBlock = some g → g < lo ∨ hi ≤ g)
    (hown : w3.ownsRow B 27 10 (.slice (some ⟨g, 0, none⟩) n' cap) n' xs') (hn : n' = css.length + 1) (hx : xs' = css.flatMap cl ++ cl c)
    (hgrow : (w.alloc ob).grownBy w3 o.ownBlock) (hat : o.ownBlock = some g ∨ g = w.heap.size + 1) :
    Nodes Q cl B (css ++ [c]) (.slice (some ⟨g, 0, none⟩) n' cap) w3 := by
  subst hn hx
  have hs3 := hgrow.size
  have hal : (w.alloc ob).heap.size = w.heap.size + 1 := by simp
  rw [hal] at hs3
  refine ⟨by simpa using hown, ?_⟩
  have hstep : ∀ b, b < w.heap.size → some b ≠ o.ownBlock → w3.heap[b]? = w.heap[b]? := by
    intro b h1 h2
    rw [hgrow.block b (by simp; omega) h2]
    exact heap_alloc_old w _ h1
  have key : ∀ (lo hi : Nat) (d : α), hi ≤ w.heap.size → Q lo hi d w → (∀ g, o.ownBlock = some g → g < lo ∨ hi ≤ g) → Q lo hi d w3 ∧ ∀ g', (Value.slice (some ⟨g, 0, none⟩) (css.length + 1) cap).ownBlock = some g' → g' < lo ∨ hi ≤ g' := by
    intro lo hi d h1 h2 h3
    refine ⟨hS.keep _ _ _ _ _ h2 (fun b hb1 hb2 _ => hstep b (by omega) (by
      intro hh
      rcases h3 b hh.symm with h5 | h5 <;> omega)) (by omega), ?_⟩
    intro g' hg'
    have : g' = g := by simpa [Value.ownBlock] using hg'.symm
    subst this
    rcases hat with h5 | h5
    · exact h3 _ h5
    · right; omega
  intro d hd
  rcases List.mem_append.1 hd with h | h
  · obtain ⟨lo', hi', h1, h2, h3, h4⟩ := hm.2 d h
    obtain ⟨k1, k2⟩ := key lo' hi' d h2 h3 h4
    exact ⟨lo', hi', h1, by omega, k1, k2⟩
  · rw [List.mem_singleton] at h
    subst h
    obtain ⟨k1, k2⟩ := key lo hi d hhi hq ho
    exact ⟨lo, hi, hlo, by omega, k1, k2⟩
/-- a slice of texts -/
def Texts (B n L : Nat) (v : Value) (w : World) : Prop := ∃ ss : List ByteArray, ss.length = n ∧ (∀ s ∈ ss, s.size ≤ L) ∧ w.ownsRow B 9 1 v n (ss.map .string)
theorem Texts.nil (B L : Nat) (w : World) : Texts B 0 L (.slice none 0 0) w := ⟨[], rfl, fun _ h => absurd h List.not_mem_nil, World.ownsRow_nil _ _ _ _⟩
theorem Texts.keep {B n L : Nat} {v : Value} {w w' : World} (h : Texts B n L v w) (hs : SameAll 9 B w w') : Texts B n L v w' := by
  obtain ⟨ss, h1, h2, h3⟩ := h
  exact ⟨ss, h1, h2, own_same h3 hs⟩
theorem Texts.more {B n L L' : Nat} {v : Value} {w : World} (h : Texts B n L v w) (hL : L ≤ L') : Texts B n L' v w := by
  obtain ⟨ss, h1, h2, h3⟩ := h
  exact ⟨ss, h1, fun s hs => Nat.le_trans (h2 s hs) hL, h3⟩
theorem Texts.low {B B' n L : Nat} {v : Value} {w : World} (h : Texts B n L v w) (hB : B' ≤ B) : Texts B' n L v w := by
  obtain ⟨ss, h1, h2, h3, h4⟩ := h
  refine ⟨ss, h1, h2, h3, h4.imp_right ?_⟩
  rintro ⟨g, cap, cur, g1, g2, g3⟩
  exact ⟨g, cap, cur, g1, by omega, g3⟩
theorem Nodes.low {α : Type} {Q : Nat → Nat → α → World → Prop} {cl : α → List Value} {B B' : Nat} {css : List α} {o : Value} {w : World} (h : Nodes Q cl B css o w) (hB : B' ≤ B) : Nodes Q cl B' css o w := by
  obtain ⟨⟨h3, h4⟩, h5⟩ := h
  refine ⟨⟨h3, h4.imp_right ?_⟩, ?_⟩
  · rintro ⟨g, cap, cur, g1, g2, g3⟩
    exact ⟨g, cap, cur, g1, by omega, g3⟩
  · intro c hc
    obtain ⟨lo, hi, k1, k2⟩ := h5 c hc
    exact ⟨lo, hi, by omega, k2⟩
/-- the call gives a node of the thin package of which this is to be said -/
def GivenX (Q : Nat → Nat → Array Value → World → Prop) (w : World) (e : Ending) (w2 : World) : Prop := ∃ cs, e = .returned (.agg cs) ∧ cs.size = 16 ∧ cs.all (·.oneCell') = true ∧ Q w.heap.size w2.heap.size cs w2 ∧ Below w.heap.size w w2
/-- of these cells, whatever their lines, 'given' makes a node of which this is to be said: in any world that has the nodes from lo to hi as this one has them -/
def GivesTo (Q : Bool → Nat → Nat → Array Value → World → Prop) (lo hi : Nat) (cs : Array Value) (w : World) : Prop :=
  ∃ k t ti nu ch lb ks fr tl, cs = spcG k t ti nu ch lb ks fr tl ∧ KidsV ks ∧ ∀ fr tl tg w', Same 27 lo hi w w' → w.heap.size ≤ w'.heap.size → hi ≤ w'.heap.size → Calls Tryz.prog 6 #[.agg (spcG k t ti nu ch lb ks fr tl), .bool tg] w' (GivenX (Q tg) w')
theorem gives_say (Q : Bool → Nat → Nat → Array Value → World → Prop) : SayN (GivesTo Q) where
  keep := by
    rintro lo hi c w1 w2 ⟨k, t, ti, nu, ch, lb, ks, fr, tl, h1, h2, h3⟩ hs hz
    exact ⟨k, t, ti, nu, ch, lb, ks, fr, tl, h1, h2, fun fr tl tg w' g1 g2 g3 => h3 fr tl tg w' (hs.trans g1) (Nat.le_trans hz g2) g3⟩
  wide := by
    rintro lo hi lo' hi' c w ⟨k, t, ti, nu, ch, lb, ks, fr, tl, h1, h2, h3⟩ g1 g2
    exact ⟨k, t, ti, nu, ch, lb, ks, fr, tl, h1, h2, fun fr tl tg w' k1 k2 k3 => h3 fr tl tg w' (k1.less g1 g2) k2 (by omega)⟩
theorem GivesTo.shape {Q : Bool → Nat → Nat → Array Value → World → Prop} {lo hi : Nat} {cs : Array Value} {w : World} (h : GivesTo Q lo hi cs w) : cs.size = 10 ∧ cs.all (·.oneCell') = true := by
  obtain ⟨k, t, ti, nu, ch, lb, ks, fr, tl, rfl, h2, _⟩ := h
  exact ⟨rfl, spcG_one _ _ _ _ _ _ h2 _ _⟩
theorem GivesTo.call {Q : Bool → Nat → Nat → Array Value → World → Prop} {lo hi : Nat} {cs : Array Value} {w : World} (h : GivesTo Q lo hi cs w) (tg : Bool) (w' : World) (h1 : Same 27 lo hi w w') (h2 : w.heap.size ≤ w'.heap.size) (h3 : hi ≤ w'.heap.size) :
    Calls Tryz.prog 6 #[.agg cs, .bool tg] w' (GivenX (Q tg) w') := by
  obtain ⟨k, t, ti, nu, ch, lb, ks, fr, tl, rfl, _, h⟩ := h
  exact h fr tl tg w' h1 h2 h3
/-- an array of ten -/
theorem arr10 {cs : Array Value} (h : cs.size = 10) : ∃ x0 x1 x2 x3 x4 x5 x6 x7 x8 x9, cs = #[x0, x1, x2, x3, x4, x5, x6, x7, x8, x9] :=
  ⟨cs[0], cs[1], cs[2], cs[3], cs[4], cs[5], cs[6], cs[7], cs[8], cs[9], by
    apply Array.ext
    · simpa using h
    · intro i h1 h2
      have : i < 10 := by omega
      match i, this with
      | 0, _ => rfl | 1, _ => rfl | 2, _ => rfl | 3, _ => rfl | 4, _ => rfl | 5, _ => rfl | 6, _ => rfl | 7, _ => rfl | 8, _ => rfl | 9, _ => rfl⟩
theorem flat_getN {m : Nat} : ∀ (css : List (Array Value)) (k j : Nat) (h : k < css.length), (∀ c ∈ css, c.size = m) → j < m → (css.flatMap Array.toList)[k * m + j]? = css[k].toList[j]?
  | [], _, _, h, _, _ => absurd h (Nat.not_lt_zero _)
  | c :: r, 0, j, _, hs, hj => by
    have h1 : c.toList.length = m := by simpa using hs c (by simp)
    simp only [List.flatMap_cons, List.getElem_cons_zero]
    rw [List.getElem?_append_left (by omega)]; simp
  | c :: r, k + 1, j, h, hs, hj => by
    have h1 : c.toList.length = m := by simpa using hs c (by simp)
    simp only [List.flatMap_cons, List.getElem_cons_succ]
    have h2 : (k + 1) * m = k * m + m := Nat.succ_mul _ _
    rw [List.getElem?_append_right (by omega), show (k + 1) * m + j - c.toList.length = k * m + j by omega]
    exact flat_getN r k j (by simpa using h) (fun c hc => hs c (by simp [hc])) hj
theorem flat_lenN {m : Nat} : ∀ (css : List (Array Value)), (∀ c ∈ css, c.size = m) → (css.flatMap Array.toList).length = css.length * m
  | [], _ => by simp
  | c :: r, hs => by
    have h1 : c.toList.length = m := by simpa using hs c (by simp)
    simp only [List.flatMap_cons, List.length_append, List.length_cons, flat_lenN r (fun c hc => hs c (by simp [hc])), h1]
    rw [Nat.succ_mul]; omega
theorem row_rangeN {m : Nat} {e : TypeId} {a k : Nat} {css : List (Array Value)} {w : World} (h : RowAt e a (css.flatMap Array.toList) w) (hs : ∀ c ∈ css, c.size = m) (hk : k < css.length) : w.rangeAt a (k * m) css[k].toList := by
  intro j v hv
  have hj : j < m := by
    have := (List.getElem?_eq_some_iff.1 hv).1
    have h2 := hs css[k] (List.getElem_mem hk)
    simp at this; omega
  have hl := flat_lenN css hs
  have h3 : (k + 1) * m ≤ css.length * m := Nat.mul_le_mul_right _ hk
  rw [Nat.succ_mul] at h3
  rw [h.cell (k * m + j) (by omega)]
  have := flat_getN css k j hk hs hj
  rw [List.getElem?_eq_getElem (by omega)] at this
  rw [this]; exact hv
/-- a store of a struct into a variable just made -/
theorem wpList_store_new {ops : Array Oper} {rest : List Oper} {op : Oper} {a : Act} {w : World} {Q : Exit → Act → World → Prop} (hgd : op.guard = none) (ty : TypeId) (n : Nat) (x y : Operand) (ho : op.op = .store ty x y)
    (hi : (Tryz.prog.info? ty).map (·.size) = some n) (old cells : Array Value) (hold : old.size = n) (hx : a.eval x = .pointer (some ⟨w.heap.size, 0, none⟩)) (hy : a.eval y = .agg cells)
    (hs : cells.size = n) (h1 : cells.all (·.oneCell') = true)
    (h : wpList Tryz.prog ops Q rest (a.put op.dst undef) (w.alloc (.cells cells ty))) : wpList Tryz.prog ops Q (op :: rest) a (w.alloc (.cells old ty)) := by
  have hst : (storeCells ⟨w.heap.size, 0, none⟩ cells.toList).run Tryz.prog (w.alloc (.cells old ty)) = .ok () ((w.alloc (.cells old ty)).setRow w.heap.size cells) := by
    have := run_storeCells_from (P := Tryz.prog) w.heap.size ty cells.toList 0 old (w.alloc (.cells old ty)) (heap_alloc_new w _) (by simp; omega) (fun v hv => (Array.all_eq_true_iff_forall_mem.1 h1) v (by simpa using hv))
    simpa using this
  rw [row_alloc] at hst
  obtain ⟨j, hi, hz1⟩ := Option.map_eq_some_iff.1 hi
  refine wpList_plain hgd fun _ hK => ?_
  unfold Oper.wp execOp
  have hv : (storeVar ty ⟨w.heap.size, 0, none⟩ (.agg cells)).run Tryz.prog (w.alloc (.cells old ty)) = .ok () (w.alloc (.cells cells ty)) := by
    simp [storeVar, sizeOf, typeInfo, hi, Value.cells, hs, hz1, hst]
  simp only [ho, hx, hy, Instr.storeAt, Instr.sureAddr, Sem.run_bind, Sem.run_pure, Result.andThen_ok, hv]
  exact hK _ _ h
/-- a store of a struct over a row that is there -/
theorem wpList_store_row {ops : Array Oper} {rest : List Oper} {op : Oper} {a : Act} {w : World} {Q : Exit → Act → World → Prop} (hgd : op.guard = none) (ty : TypeId) (n b : Nat) (x y : Operand) (ho : op.op = .store ty x y)
    (hi : (Tryz.prog.info? ty).map (·.size) = some n) (old cells : Array Value) (hb : w.heap[b]? = some (.cells old ty)) (hold : old.size = n) (hx : a.eval x = .pointer (some ⟨b, 0, none⟩)) (hy : a.eval y = .agg cells)
    (hs : cells.size = n) (h1 : cells.all (·.oneCell') = true)
    (h : wpList Tryz.prog ops Q rest (a.put op.dst undef) (w.setRow b cells)) : wpList Tryz.prog ops Q (op :: rest) a w := by
  have hst : (storeCells ⟨b, 0, none⟩ cells.toList).run Tryz.prog w = .ok () (w.setRow b cells) := by
    have := run_storeCells_from (P := Tryz.prog) b ty cells.toList 0 old w hb (by simp; omega) (fun v hv => (Array.all_eq_true_iff_forall_mem.1 h1) v (by simpa using hv))
    simpa using this
  obtain ⟨j, hi, hz1⟩ := Option.map_eq_some_iff.1 hi
  refine wpList_plain hgd fun _ hK => ?_
  unfold Oper.wp execOp
  have hv : (storeVar ty ⟨b, 0, none⟩ (.agg cells)).run Tryz.prog w = .ok () (w.setRow b cells) := by
    simp [storeVar, sizeOf, typeInfo, hi, Value.cells, hs, hz1, hst]
  simp only [ho, hx, hy, Instr.storeAt, Instr.sureAddr, Sem.run_bind, Sem.run_pure, Result.andThen_ok, hv]
  exact hK _ _ h
/-- the whole row, as a range -/
theorem range_whole {w : World} {b : Nat} {cs : Array Value} {t : TypeId} {fr : Nat × Nat} (hb : w.heap[b]? = some (.cells cs t fr)) : w.rangeAt b 0 cs.toList := by
  intro j v hv
  rw [Nat.zero_add, Lib.cell_of_heap hb]
  simpa using hv
end Go.Proofs.YtnocllocnoodnaaGreatDoor
namespace Go.Proofs.YtnocllocnoodnaaGreatDoor
open Go Go.RowKit
section
variable {P : Program} {ops : Array Oper} {Q : Exit → Act → World → Prop} {md : Region.Mode} {S : World → Prop} {m : Nat}
/-- whatever order is picked: S holds behind each operation but m -/
def wpAnyB (P : Program) (md : Region.Mode) (ops : Array Oper) (Q : Exit → Act → World → Prop) (S : World → Prop) (m : Nat) : Nat → Array Bool → Act → World → Prop
  | 0, listed, a, w => Region.ready md ops listed = [] ∧ Q .normal a w
  | fuel + 1, listed, a, w =>
    (Region.ready md ops listed = [] → Q .normal a w) ∧
    ∀ i ∈ Region.ready md ops listed, wpOp P ops Q i (fun a' w' => (i ≠ m → S w') ∧ wpAnyB P md ops Q S m fuel (listed.setIfInBounds i true) a' w') a w
theorem wpAny_of_B : ∀ (fuel : Nat) (listed : Array Bool) (a : Act) (w : World), wpAnyB P md ops Q S m fuel listed a w → wpAny P md ops Q fuel listed a w
  | 0, _, _, _, h => h
  | fuel + 1, _, _, _, h => ⟨h.1, fun i hi => wpOp_mono (fun a' w' h' => wpAny_of_B fuel _ a' w' h'.2) (h.2 i hi)⟩
theorem unlisted_wait {i : Nat} {listed : Array Bool} (hr : i ∈ Region.ready md ops listed) {e : Nat} (he : e = i) : listed.getD e false = false := by
  subst he
  have h0 := (mem_ready.1 hr).1
  rcases Nat.lt_or_ge e listed.size with h' | h'
  · simp [h'] at h0 ⊢; exact h0
  · simp [Array.getElem?_eq_none h']
theorem wpAnyB_first {i : Nat} {oi : Oper} {v : Value} (hi : ops[i]? = some oi) (hsel : ∀ (j : Nat) (o : Oper) cs b, ops[j]? = some o → o.op ≠ .select cs b)
    (hQ : ∀ c a w, Q (.panic c) (a.put oi.dst v) w → Q (.panic c) a w) (hm : Region.waitsFor md ops m i = true) (him : i ≠ m) :
    ∀ (fuel : Nat) (listed : Array Bool) (a : Act) (w : World),
      (∀ j oj, ops[j]? = some oj → j ≠ i → listed.getD j true = false → (∀ e ∈ oj.after, Region.binds md e = true → e.on ≠ i) → oi.apart ops oj = true) →
      i ∈ Region.ready md ops listed → YieldsIf P ops S oi v a → S w →
      wpAnyB P md ops Q S m fuel (listed.setIfInBounds i true) (a.put oi.dst v) w → wpAnyB P md ops Q S m (fuel + 1) listed a w := by
  intro fuel
  induction fuel with
  | zero =>
    intro listed a w _ hr hy hS H
    refine ⟨fun h => (by rw [h] at hr; cases hr), fun j hj => ?_⟩
    by_cases hji : j = i
    · subst hji; exact hy.wpOp hi hS ⟨fun _ => hS, H⟩
    · have := ready_mono hj hji
      rw [H.1] at this
      cases this
  | succ fuel ih =>
    intro listed a w hfree hr hy hS H
    refine ⟨fun h => (by rw [h] at hr; cases hr), fun j hj => ?_⟩
    by_cases hji : j = i
    · subst hji; exact hy.wpOp hi hS ⟨fun _ => hS, H⟩
    · have h1 := H.2 j (ready_mono hj hji)
      obtain ⟨hjun, oj, hoj, hall⟩ := mem_ready.1 hj
      have hnot : ∀ e ∈ oj.after, Region.binds md e = true → e.on ≠ i := fun e he hb heq => by
        have h1 := hall e he hb
        rw [unlisted_wait hr heq] at h1
        cases h1
      have hjm : j ≠ m := by
        rintro rfl
        obtain ⟨om, hom, e, he, hb, hon⟩ := Region.waitsFor_spec hm
        have : om = oj := Option.some.inj (hom.symm.trans hoj)
        subst this
        exact hnot e he hb hon
      have h2 := wpOp_putIf (S := S) hoj (hfree j oj hoj hji hjun hnot) (fun cs b => hsel i oi cs b hi) (fun cs b => hsel j oj cs b hoj) hQ hy h1
      have hfree' : ∀ k ok, ops[k]? = some ok → k ≠ i → (listed.setIfInBounds j true).getD k true = false →
          (∀ e ∈ ok.after, Region.binds md e = true → e.on ≠ i) → oi.apart ops ok = true := fun k ok hk hki hun hno => by
        refine hfree k ok hk hki ?_ hno
        by_cases hjk : j = k
        · subst hjk; exact hjun
        · rw [getD_set_ne true hjk] at hun; exact hun
      refine wpOp_mono (fun a' w' h3 => ⟨h3.2.1, ih (listed.setIfInBounds j true) a' w' hfree' (ready_mono hr (Ne.symm hji)) h3.1 (h3.2.1 hjm) ?_⟩) h2
      rw [Array.setIfInBounds_comm _ _ hji]
      exact h3.2.2
/-- number i is taken first -/
theorem wpAnyB_take {i : Nat} {oi : Oper} {fuel : Nat} {listed : Array Bool} {a : Act} {w : World} (v : Value) (hi : ops[i]? = some oi)
    (hs : Region.noSelect ops = true) (hf : Region.free md ops listed i = true) (hr : (Region.ready md ops listed).contains i = true) (hm : Region.waitsFor md ops m i = true) (him : (i == m) = false)
    (hQ : ∀ c a w, Q (.panic c) (a.put oi.dst v) w → Q (.panic c) a w) (hS : S w) (hy : YieldsIf P ops S oi v a)
    (h : wpAnyB P md ops Q S m fuel (listed.setIfInBounds i true) (a.put oi.dst v) w) : wpAnyB P md ops Q S m (fuel + 1) listed a w :=
  wpAnyB_first hi (Region.noSelect_spec hs) hQ hm (by simpa using him) fuel listed a w (Region.free_spec hi hf) (by simpa using hr) hy hS h
/-- number i alone may come up -/
theorem wpAnyB_one {i : Nat} {oi : Oper} {fuel : Nat} {listed : Array Bool} {a : Act} {w : World} (hi : ops[i]? = some oi) (hr : Region.ready md ops listed = [i]) (hw : Region.wanted oi (yielded ops a.tmps) = true)
    (h : ∀ K : Act → World → Prop, Hid (∀ a' w', ((i ≠ m → S w') ∧ wpAnyB P md ops Q S m fuel (listed.setIfInBounds i true) a' w') → K a' w') → Oper.wp P oi a w K Q) : wpAnyB P md ops Q S m (fuel + 1) listed a w := by
  refine ⟨fun h0 => (by rw [hr] at h0; cases h0), fun j hj => ?_⟩
  rw [hr] at hj
  have : j = i := by simpa using hj
  subst this
  unfold wpOp
  simp only [hi, hw, if_true]
  exact .inl (h _ (Lib.hid fun _ _ h => h))
theorem wpAnyB_done {listed : Array Bool} {a : Act} {w : World} (hr : Region.ready md ops listed = []) (h : Q .normal a w) : ∀ fuel, wpAnyB P md ops Q S m fuel listed a w
  | 0 => ⟨hr, h⟩
  | _ + 1 => ⟨fun _ => h, by rw [hr]; simp⟩
theorem wp_region_B {id : Nat} {a : Act} {w : World} (S : World → Prop) (m : Nat) (hm : P.follows .mixedOrders = true)
    (h : wpAnyB P .any ops Q S m ops.size (Array.replicate ops.size false) a w.drew) : (Code.region id ops true).wp P Q a w :=
  wp_region_any hm (wpAny_of_B (S := S) (m := m) _ _ _ _ h)
/-- it yields -/
theorem yields_in {o : Oper} {v : Value} {a : Act} (hw : Region.wanted o (yielded ops a.tmps) = true) (h : ∀ w, S w → (execOp a.eval o).run P w = .ok (.value v) w) : YieldsIf P ops S o v a := .inl ⟨hw, h⟩
/-- it is passed by -/
theorem yields_not {o : Oper} {a : Act} (hw : Region.wanted o (yielded ops a.tmps) = false) : YieldsIf P ops S o undef a := .inr ⟨hw, rfl⟩
end
end Go.Proofs.YtnocllocnoodnaaGreatDoor
namespace Go.Proofs.YtnocllocnoodnaaGreatDoor
open Go.RowKit
theorem spc_info : (Tryz.prog.info? 27).map (·.size) = some 10 := by kernel_rfl
/-- the three blocks that 'given' makes for itself -/
def BlocksOf (b : Nat) (c1 c2 c3 : Array Value) (w : World) : Prop := w.heap[b]? = some (.cells c1 27) ∧ w.heap[b + 1]? = some (.cells c2 33) ∧ w.heap[b + 2]? = some (.cells c3 33) ∧ b + 3 ≤ w.heap.size
theorem blocks_of (w : World) (c1 c2 c3 : Array Value) : BlocksOf w.heap.size c1 c2 c3 (((w.alloc (.cells c1 27)).alloc (.cells c2 33)).alloc (.cells c3 33)) := by
  obtain ⟨h1, h2⟩ := two_allocs w (.cells c1 27) (.cells c2 33)
  refine ⟨(heap_alloc_old _ _ (by simp; omega)).trans h1, (heap_alloc_old _ _ (by simp)).trans h2, ?_, by simp⟩
  have := heap_alloc_new ((w.alloc (.cells c1 27)).alloc (.cells c2 33)) (.cells c3 33)
  simpa using this
theorem keep3 {b n sz : Nat} {e : TypeId} {c1 c2 c3 : Array Value} {w wa w2 w3 : World} {o : Value} {xs : List Value} {ob : Obj} (h : BlocksOf b c1 c2 c3 w) (ho : w.ownsRow (b + 3) e sz o n xs) (ha : Below w.heap.size w wa) (h2 : Below wa.heap.size wa w2) (hg : (w2.alloc ob).grownBy w3 o.ownBlock) : BlocksOf b c1 c2 c3 w3 := by
  have k : ∀ j, j < b + 3 → w3.heap[j]? = w.heap[j]? := by
    intro j hj
    have h4 := h.2.2.2
    have s1 := ha.size
    have s2 := h2.size
    rw [hg.block j (by simp; omega) (by intro hh; have := (ho.lt j hh.symm).1; omega), heap_alloc_old w2 _ (by omega), h2.block j (by omega), ha.block j (by omega)]
  have s1 := ha.size
  have s2 := h2.size
  have s3 := hg.size
  have h4 := h.2.2.2
  simp at s3
  exact ⟨(k b (by omega)).trans h.1, (k (b + 1) (by omega)).trans h.2.1, (k (b + 2) (by omega)).trans h.2.2.1, by omega⟩
theorem own_low {w : World} {B B' : Nat} {e : TypeId} {sz n : Nat} {v : Value} {xs : List Value} (h : w.ownsRow B e sz v n xs) (hB : B' ≤ B) : w.ownsRow B' e sz v n xs := by
  refine ⟨h.1, h.2.imp_right ?_⟩
  rintro ⟨g, cap, cur, g1, g2, g3⟩
  exact ⟨g, cap, cur, g1, by omega, g3⟩
theorem made_low {α : Type} {Q : Nat → Nat → Nat → α → World → Prop} {cl : α → List Value} {e : TypeId} {sz B B' : Nat} {css : List α} {o : Value} {w : World} (h : Made Q cl e sz B css o w) (hB : B' ≤ B) : Made Q cl e sz B' css o w := by
  refine ⟨own_low h.1 hB, fun j hj => ?_⟩
  obtain ⟨lo, hi, h1, h2⟩ := h.2 j hj
  exact ⟨lo, hi, Nat.le_trans hB h1, h2⟩
theorem made_same {α : Type} {Q : Nat → Nat → Nat → α → World → Prop} (hS : Sayable Q) {cl : α → List Value} {e : TypeId} {sz B : Nat} {css : List α} {o : Value} {w w' : World} (h : Made Q cl e sz B css o w) (hb : ∀ b, B ≤ b → w'.heap[b]? = w.heap[b]?) (hz : w'.heap.size = w.heap.size) : Made Q cl e sz B css o w' := by
  refine ⟨⟨h.1.1, h.1.2.imp_right ?_⟩, fun j hj => ?_⟩
  · rintro ⟨g, cap, cur, g1, g2, g3, g4⟩
    exact ⟨g, cap, cur, g1, g2, (hb g g2).trans g3, g4⟩
  · obtain ⟨lo, hi, h1, h2, h3, h4⟩ := h.2 j hj
    exact ⟨lo, hi, h1, by omega, hS.keep _ _ _ _ _ _ h3 (fun b hb1 _ => hb b (by omega)), h4⟩
theorem impl_one16 {w : World} {B n : Nat} {e : TypeId} {o : Value} {xs : List Value} {k nu wd : Int} {t ti ch mk : ByteArray} {lb tg : Bool} (h : w.ownsRow B e 16 o n xs) : (#[.int .i64 k, .string t, .string ti, .int .i64 nu, .string ch, .bool lb, .slice none 0 0, o, .int .i64 0, .int .i64 0, .string mk, .int .i64 wd, .bool tg, .bool false, .bool false, .slice none 0 0] : Array Value).all (·.oneCell') = true := by
  rcases h.2 with ⟨rfl, _⟩ | ⟨g, cap, cur, rfl, _⟩ <;> simp [Value.oneCell']
/-- what a round of 'given' reads -/
def ReadsG (b c : Nat) (kd : Int) (lb : Bool) (o : Value) (xs : List Value) (w : World) : Prop := w.cell? ⟨b, 0, none⟩ = some (.int .i64 kd) ∧ w.cell? ⟨b, 5, none⟩ = some (.bool lb) ∧ w.cell? ⟨b + 1 + 1, 7, none⟩ = some o ∧ w.rangeAt c 0 xs
theorem ReadsG.keep {b c : Nat} {kd : Int} {lb : Bool} {o : Value} {xs : List Value} {w w' : World} (h : ReadsG b c kd lb o xs w) (h1 : w'.heap[b]? = w.heap[b]?) (h2 : w'.heap[b + 1 + 1]? = w.heap[b + 1 + 1]?) (h3 : w'.heap[c]? = w.heap[c]?) : ReadsG b c kd lb o xs w' :=
  ⟨(World.cell?_of_block h1).trans h.1, (World.cell?_of_block h1).trans h.2.1, (World.cell?_of_block h2).trans h.2.2.1, fun j v hv => (World.cell?_of_block h3).trans (h.2.2.2 j v hv)⟩
/-- the nodes are turned, and put into one of this form -/
def TurnedRow (Q : Nat → Nat → Nat → Array Value → World → Prop) (F : Value → Array Value) (n : Nat) (w : World) (e : Ending) (w' : World) : Prop :=
  ∃ css o, css.length = n ∧ e = .returned (.agg (F o)) ∧ Made Q Array.toList 33 16 w.heap.size css o w' ∧ (∀ c ∈ css, c.size = 16 ∧ c.all (·.oneCell') = true) ∧ Below w.heap.size w w'
end Go.Proofs.YtnocllocnoodnaaGreatDoor
