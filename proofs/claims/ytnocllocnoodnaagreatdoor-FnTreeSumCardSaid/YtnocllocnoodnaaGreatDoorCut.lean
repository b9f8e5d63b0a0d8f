/- impl.cut: a text as lines; a range over strings.Lines, whose closure keeps what is left of the text in a box. -/
import Derived.Test.YtnocllocnoodnaaGreatDoorShelf
import Derived.RangeFuncBox
import Derived.RangeFuncLeaves
import Derived.RangeFuncCalls
import Derived.RangeFuncFrom
import Derived.Shelf.Abstract
import Derived.WalkKit
import Derived.OwnWalkIn
import Derived.TacticsInMore
import Derived.LoopNIn
import Derived.LoopIn
import Derived.Test.YtnocllocnoodnaaGreatDoorBeside
import Derived.Lib.Hide
namespace Go.Proofs.YtnocllocnoodnaaGreatDoor
open Go Go.RowKit Go.Shelf
set_option linter.unusedSimpArgs false
attribute [local go_sem] Oper.semAt_some
/-- what a round that goes on leaves: nothing but cells has changed, and the box Bs is as it was -/
def roundOwn {α : Type} (Bs : Nat) (I : List α → World → Prop) (xs : List α) (W : World) : Exit → Act → World → Prop
  | .normal, _, W' => KeepsOthers W W' ∧ W'.heap[Bs]? = W.heap[Bs]? ∧ I xs W'
  | _, _, _ => False
/-- a range over a function whose closure writes a box Bs of its own, and no round of which leaves the loop -/
theorem range_box {α : Type} {n : Nat} {P : Program} {gop : Operand} {ps : Array Tmp} {assign body : Code} {Q : Exit → Act → World → Prop} {a : Act} {w : World} (h1 : 1 ≤ n) {gf : Nat} {lb : Array Value} (hg : a.eval gop = .func (.func gf) #[] lb)
    (eg : ∀ args w, (callFunc gf args).run P w = .ok (.enter gf args) w) {encs : α → Array Value} (Pre : List α → α → Prop) (S : List α → Prop) (Bs : Nat) (hBs : Bs < w.heap.size)
    (hseq : ∀ (l : Nat) (J : List α → World → Prop) (W : World), W.heap[Bs]? = w.heap[Bs]? → (∀ s A B, J s A → A.grownBy B (some Bs) → J s B) →
      (∀ pre x W1, J pre W1 → Pre pre x → YieldAt Fence.wide (n - 1 - 1) P l (encs x) W1 fun e W' => e = .returned (.bool true) ∧ J (pre ++ [x]) W' ∧ W'.heap[Bs]? = W1.heap[Bs]?) → J [] W →
      CallsIn Fence.wide (n - 1) P gf (#[.func (.yield l) #[] #[]] ++ lb) W fun e W' => (∃ v, e = .returned v) ∧ ∃ xs, S xs ∧ J xs W')
    (hps : ∀ x, (encs x).size = ps.size) (I : List α → World → Prop)
    (hI : ∀ s A B row, I s A → A.grownBy B row → (∀ r, row = some r → r = Bs ∨ w.heap.size ≤ r ∧ ∃ o : Obj, A.heap[r]? = some o ∧ o.isCells = false) → I s B) (h0 : I [] w) (a₁ : α → Act)
    (hassign : ∀ (l : Nat) (x : α) (W : World) (K : Act → World → Prop), K (a₁ x) W →
      assign.wpIn (Fence.wide.inRound l) (n - 1 - 1) P (Exit.then K (fun _ _ _ => False)) { tmps := (ps.zip (encs x)).foldl (fun t (p, v) => t.setIfInBounds p v) a.tmps, defers := [] } W)
    (hbody : ∀ (l : Nat) (pre : List α) (x : α) (W : World), I pre W → Pre pre x → body.wpIn (Fence.wide.inRound l) (n - 1 - 1) P (roundOwn Bs I (pre ++ [x]) W) (a₁ x) W)
    (hdone : ∀ (D : Nat) (xs : List α) (W : World), w.heap.size ≤ D → S xs → I xs W → W.heap[D]? = some (.deferred (some [])) → Q .normal { a with defers := { target := .collected D, args := #[] } :: a.defers } W) :
    (Code.rangeFunc gop ps assign body).wpIn Fence.wide n P Q a w := by
  refine wpIn_rangeFunc ?_
  intro fn hfn
  obtain ⟨D, hD⟩ : ∃ D, D = w.heap.size := ⟨_, rfl⟩
  obtain ⟨lp, hlp⟩ : ∃ lp : LoopState → Option Code → Loop, lp = fun st pe => { state := st, pending := pe, fn, tmps := a.tmps, params := ps, assign, body, defers := w.heap.size } := ⟨_, rfl⟩
  obtain ⟨W1, hW1⟩ : ∃ W1, W1 = (w.alloc (.deferred (some []))).alloc (.loop (lp .ready none)) := ⟨_, rfl⟩
  have hz1 : W1.heap.size = D + 2 := by rw [hW1, hD]; simp
  have hl1 : W1.heap[D + 1]? = some (.loop (lp .ready none)) := by
    have := World.alloc_heap_new (w.alloc (.deferred (some []))) (.loop (lp .ready none))
    rw [World.size_alloc] at this
    rw [hW1, hD]; exact this
  have hk1 : W1.heap[D]? = some (.deferred (some [])) := by
    rw [hW1, hD]
    exact (Below.heap_alloc _ _ _ (by simp)).trans (World.alloc_heap_new w _)
  have hb1 : W1.heap[Bs]? = w.heap[Bs]? := by
    rw [hW1]
    exact (Below.heap_alloc _ _ _ (by simp; omega)).trans (Below.heap_alloc _ _ _ hBs)
  have hi1 : I [] W1 := by
    rw [hW1]
    exact hI _ _ _ none (hI _ _ _ none h0 (World.grownBy_alloc _ _ none) (fun r e => by cases e)) (World.grownBy_alloc _ _ none) (fun r e => by cases e)
  have turn : ∀ (s : List α) (A : World) (o o' : Obj), I s A → A.heap[D + 1]? = some o → o.isCells = false → I s (A.putObj (D + 1) o') := fun s A o o' hs ho hc =>
    hI _ _ _ (some (D + 1)) hs (grownBy_putObj' A (D + 1) o') (fun r e => .inr (by cases e; exact ⟨by omega, o, ho, hc⟩))
  refine ⟨D + 1, [{ target := .collected D, args := #[] }], W1, { target := .fn (.func gf) lb, args := #[.func (.yield (D + 1)) #[] #[]] }, W1, gf, #[.func (.yield (D + 1)) #[] #[]] ++ lb, W1, ?_, ?_, fun _ _ => trivial, ?_, fun _ => h1, ?_⟩
  · rw [hW1, hlp, hD]; exact run_enterLoop_outer _ _ _ _ _
  · simp only [resolve, hg]
    simp [go_sem]
  · simp [invoke, go_sem, eg]
  refine (hseq (D + 1) (fun pre W => I pre W ∧ W.heap[D + 1]? = some (.loop (lp .ready none)) ∧ W.heap[D]? = some (.deferred (some []))) W1 hb1 ?_ ?_ ⟨hi1, hl1, hk1⟩).mono ?_
  · rintro s A B ⟨k1, k2, k3⟩ hgb
    exact ⟨hI _ _ _ _ k1 hgb (fun r e => .inl (by cases e; rfl)), (hgb.block _ (Array.getElem?_eq_some_iff.1 k2).1 (by intro e; cases e; omega)).trans k2, (hgb.block _ (Array.getElem?_eq_some_iff.1 k3).1 (by intro e; cases e; omega)).trans k3⟩
  · rintro pre x W ⟨k1, k2, k3⟩ hpre
    have hlt : D + 1 < W.heap.size := (Array.getElem?_eq_some_iff.1 k2).1
    have hy := run_yield (P := P) (args := encs x) k2 (by rw [hlp]; exact hps x)
    rw [hlp] at hy
    refine ⟨fn, _, assign, body, hy, roundIn_of_wpIn trivial (hassign _ x W _ ⟨_, run_beginRound k2 (by rw [hlp]), ?_⟩)⟩
    have b2 : (W.putObj (D + 1) (.loop { lp .ready none with state := .busy })).heap[D + 1]? = some (.loop { lp .ready none with state := .busy }) := World.putObj_heap_same hlt
    have b3 : (W.putObj (D + 1) (.loop { lp .ready none with state := .busy })).heap[D]? = some (.deferred (some [])) := (World.putObj_heap_other (by omega)).trans k3
    refine wpIn_mono (hbody _ pre x _ (turn _ _ _ _ k1 k2 rfl) hpre) ?_
    intro e a3 W3 hp
    cases e with
    | normal =>
      obtain ⟨g1, g2, g3⟩ := hp
      have c2 := g1.same _ _ b2 rfl
      have hr : (Instr.endRound (D + 1) none).run P W3 = .ok (.bool true) (W3.putObj (D + 1) (.loop (lp .ready none))) := by
        have := run_endRound (P := P) none c2
        rw [hlp] at this ⊢
        exact this
      refine ⟨_, _, hr, rfl, ?_⟩
      exact ⟨⟨turn _ _ _ _ g3 c2 rfl, World.putObj_heap_same (Array.getElem?_eq_some_iff.1 c2).1, (World.putObj_heap_other (by omega)).trans (g1.same _ _ b3 rfl)⟩, (World.putObj_heap_other (by omega)).trans (g2.trans (World.putObj_heap_other (by omega)))⟩
    | _ => exact hp.elim
  · rintro e W2 ⟨⟨v, rfl⟩, xs, hS, k1, k2, k3⟩
    have hr : (Instr.endLoop (D + 1)).run P W2 = .ok none (W2.putObj (D + 1) (.loop { lp .ready none with state := .exhausted })) := by
      have := run_endLoop (P := P) k2 (by rw [hlp]; simp)
      rw [hlp] at this ⊢
      exact this
    have := hdone D xs (W2.putObj (D + 1) (.loop { lp .ready none with state := .exhausted })) (by omega) hS (turn _ _ _ _ k1 k2 rfl) ((World.putObj_heap_other (by omega)).trans k3)
    exact ⟨none, _, hr, by simpa using this⟩
/-- the size of the text in a box -/
def boxSize (Bs : Nat) (W : World) : Nat := match W.cell? ⟨Bs, 0, none⟩ with
  | some (.string s) => s.size
  | _ => 0
theorem boxSize_eq {W : World} {Bs : Nat} {t : TypeId} {s : ByteArray} (h : Boxed W Bs t (.string s)) : boxSize Bs W = s.size := by
  unfold boxSize
  rw [h.cell]
/-- all bytes of some texts -/
def sizes (l : List ByteArray) : Nat := (l.map ByteArray.size).sum
theorem sizes_snoc (l : List ByteArray) (s : ByteArray) : sizes (l ++ [s]) = sizes l + s.size := by simp [sizes]
/-- the lines of a text, each with its line feed; at most n -/
def linesF : Nat → ByteArray → List ByteArray
  | 0, _ => []
  | n + 1, s => if s.size = 0 then [] else if 0 ≤ Lib.indexByte s.data.toList 10 then s.extract 0 ((Lib.indexByte s.data.toList 10).toNat + 1) :: linesF n (s.extract ((Lib.indexByte s.data.toList 10).toNat + 1) s.size) else [s]
theorem linesF_nil (n : Nat) {s : ByteArray} (h : s.size = 0) : linesF n s = [] := by
  cases n with
  | zero => rfl
  | succ n => simp [linesF, h]
/-- without the line feed -/
def trimNl (x : ByteArray) : ByteArray := ⟨(Lib.trimSuffix x.data.toList (⟨#[10]⟩ : ByteArray).data.toList).toArray⟩
/-- the lines of a text -/
def cutL (s : ByteArray) : List ByteArray := (linesF s.size s).map trimNl
/-- what the loop's rule of strings.Lines hands on -/
def LinePre (s0 : ByteArray) (pre : List ByteArray) (x : ByteArray) : Prop := 0 < x.size ∧ pre.length + x.size ≤ s0.size ∧ sizes pre + x.size ≤ s0.size
def LineEnd (s0 : ByteArray) (xs : List ByteArray) : Prop := xs = linesF s0.size s0 ∧ xs.length ≤ s0.size ∧ sizes xs ≤ s0.size ∧ (0 < s0.size → 0 < xs.length)
theorem index_bounds (l : List UInt8) (c : UInt8) : -1 ≤ Lib.indexByte l c ∧ Lib.indexByte l c < l.length := by
  refine ⟨Lib.indexByte_ge l c, ?_⟩
  induction l with
  | nil => simp [Lib.indexByte]
  | cons b l ih =>
    unfold Lib.indexByte
    simp only [List.length_cons]
    split
    · omega
    · split <;> omega
set_option maxRecDepth 100000 in
set_option maxHeartbeats 2000000 in
theorem lines_walk (n l Bs : Nat) (s0 : ByteArray) (hs0 : s0.size ≤ 1000) (J : List ByteArray → World → Prop) (hJ : ∀ s A B, J s A → A.grownBy B (some Bs) → J s B)
    (hY : ∀ pre x W1, J pre W1 → LinePre s0 pre x → YieldAt Fence.wide (n - 1) Tryz.prog l #[.string x] W1 fun e W' => e = .returned (.bool true) ∧ J (pre ++ [x]) W' ∧ W'.heap[Bs]? = W1.heap[Bs]?)
    (W : World) (hB : Boxed W Bs 9 (.string s0)) (h0 : J [] W) :
    CallsIn Fence.wide n Tryz.prog 41 #[.func (.yield l) #[] #[], .pointer (some ⟨Bs, 0, none⟩)] W fun e W' => (∃ v, e = .returned v) ∧ ∃ xs, LineEnd s0 xs ∧ J xs W' := by
  refine callsIn_of_wp Tryz.func41 rfl trivial ?_ rfl
  simp only [Tryz.ntmps41, List.size_toArray, List.length_cons, List.length_nil, Nat.reduceAdd, Nat.reduceSub, Array.replicate_succ, Array.replicate_zero, List.push_toArray, List.append_toArray, List.nil_append, List.cons_append]
  gi_wp2
  gi_loopw [] (fun wr => ∃ (pre : List ByteArray) (rest : ByteArray), Boxed wr Bs 9 (.string rest) ∧ pre.length + rest.size ≤ s0.size ∧ sizes pre + rest.size ≤ s0.size ∧ (pre = [] → rest.size = s0.size) ∧ (∃ f, rest.size ≤ f ∧ pre ++ linesF f rest = linesF s0.size s0) ∧ J pre wr) (fun wr => boxSize Bs wr)
  case atStart => exact ⟨[], s0, hB, by simp, by simp [sizes], fun _ => rfl, ⟨s0.size, Nat.le_refl _, rfl⟩, h0⟩
  case round =>
    obtain ⟨pre, rest, hb, hl1, hl2, hl3, ⟨f, hf1, hf2⟩, hj⟩ := hrel
    have hc := hb.cell
    have hbf := hb.frozen
    obtain ⟨i, hix⟩ : ∃ i, Lib.indexByte rest.data.toList 10 = i := ⟨_, rfl⟩
    have hi := index_bounds rest.data.toList 10
    rw [hix] at hi
    have hsz : rest.data.toList.length = rest.size := by rw [Array.length_toList]; rfl
    rw [hsz] at hi
    obtain ⟨hi1, hi2⟩ := hi
    have HIX : Hid (∀ w : World, Calls Tryz.prog 42 #[.string rest, .int .u8 10] w fun e w' => e = .returned (.int .i64 i) ∧ w = w') := Lib.hid (fun w => by
      have := Tryz.strings_IndexByte rest 10 w
      have h10 : (10 : Int).toNat.toUInt8 = 10 := by decide
      rw [h10, hix] at this
      exact this.mono fun e w' h => ⟨h.1, h.2.symm⟩)
    clear hsz
    by_cases hz : rest.size = 0
    · gi_wp2
      go_end0
      exact ⟨⟨_, rfl⟩, pre, ⟨by rw [linesF_nil f hz, List.append_nil] at hf2; exact hf2, by omega, by omega, fun h => by
        cases pre with
        | nil => have := hl3 rfl; omega
        | cons x l => simp⟩, hj⟩
    · have hpos : (0 : Int) < (rest.size : Int) := by omega
      obtain ⟨f', rfl⟩ : ∃ f', f = f' + 1 := ⟨f - 1, by omega⟩
      by_cases hi0 : 0 ≤ i
      · have hf3 : linesF (f' + 1) rest = rest.extract 0 (i.toNat + 1) :: linesF f' (rest.extract (i.toNat + 1) rest.size) := by
          rw [← hix] at hi0 ⊢
          simp only [linesF, if_neg hz, if_pos hi0]
        rw [hf3] at hf2
        have HF := Lib.hid hf2
        clear hf2 hf3 hix
        obtain ⟨q, rfl⟩ := Int.eq_ofNat_of_zero_le hi0
        have q1 : (0 : Int) ≤ (q : Int) + 1 := by omega
        have q2 : (q : Int) + 1 ≤ (rest.size : Int) := by omega
        have q3 : IntKind.i64.wrap ((q : Int) + 1) = (q : Int) + 1 := IntWalk.i64_in _ (by omega)
        gi_wp2_with (refine ⟨trivial, (fun h => absurd h (by decide)), ?_⟩; refine (callsIn_wide.2 (HIX.out _)).mono ?_; rintro e w' ⟨rfl, rfl⟩)
        refine wpIn_wide.2 ?_
        refine wp_region_B (fun wq => wq.cell? ⟨Bs, 0, none⟩ = some (.string rest)) 9 (by kernel_rfl) ?_
        have hS : wr.drew.cell? ⟨Bs, 0, none⟩ = some (.string rest) := hc
        refine wpAnyB_take (i := 0) (.string rest) rfl (by kernel_rfl) (by kernel_rfl) (by kernel_rfl) (by kernel_rfl) rfl (fun _ _ _ h => h) hS (yields_in (by kernel_rfl) (fun wq hSw => by go_simp)) ?_
        simp only [Act.put, List.setIfInBounds_toArray, List.set_cons_zero, List.set_cons_succ]
        refine wpAnyB_take (i := 1) (.int .i64 (q : Int)) rfl (by kernel_rfl) (by kernel_rfl) (by kernel_rfl) (by kernel_rfl) rfl (fun _ _ _ h => h) hS (yields_in (by kernel_rfl) (fun wq hSw => by go_simp)) ?_
        simp only [Act.put, List.setIfInBounds_toArray, List.set_cons_zero, List.set_cons_succ]
        refine wpAnyB_take (i := 2) (.int .i64 ((q : Int) + 1)) rfl (by kernel_rfl) (by kernel_rfl) (by kernel_rfl) (by kernel_rfl) rfl (fun _ _ _ h => h) hS (yields_in (by kernel_rfl) (fun wq hSw => by go_simp)) ?_
        simp only [Act.put, List.setIfInBounds_toArray, List.set_cons_zero, List.set_cons_succ]
        refine wpAnyB_take (i := 3) (.string (rest.extract 0 ((q : Int) + 1).toNat)) rfl (by kernel_rfl) (by kernel_rfl) (by kernel_rfl) (by kernel_rfl) rfl (fun _ _ _ h => h) hS (yields_in (by kernel_rfl) (fun wq hSw => by go_simp)) ?_
        simp only [Act.put, List.setIfInBounds_toArray, List.set_cons_zero, List.set_cons_succ]
        refine wpAnyB_take (i := 4) (.string rest) rfl (by kernel_rfl) (by kernel_rfl) (by kernel_rfl) (by kernel_rfl) rfl (fun _ _ _ h => h) hS (yields_in (by kernel_rfl) (fun wq hSw => by go_simp)) ?_
        simp only [Act.put, List.setIfInBounds_toArray, List.set_cons_zero, List.set_cons_succ]
        refine wpAnyB_take (i := 5) (.int .i64 (q : Int)) rfl (by kernel_rfl) (by kernel_rfl) (by kernel_rfl) (by kernel_rfl) rfl (fun _ _ _ h => h) hS (yields_in (by kernel_rfl) (fun wq hSw => by go_simp)) ?_
        simp only [Act.put, List.setIfInBounds_toArray, List.set_cons_zero, List.set_cons_succ]
        refine wpAnyB_take (i := 6) (.int .i64 ((q : Int) + 1)) rfl (by kernel_rfl) (by kernel_rfl) (by kernel_rfl) (by kernel_rfl) rfl (fun _ _ _ h => h) hS (yields_in (by kernel_rfl) (fun wq hSw => by go_simp)) ?_
        simp only [Act.put, List.setIfInBounds_toArray, List.set_cons_zero, List.set_cons_succ]
        refine wpAnyB_take (i := 7) (.string (rest.extract ((q : Int) + 1).toNat rest.size)) rfl (by kernel_rfl) (by kernel_rfl) (by kernel_rfl) (by kernel_rfl) rfl (fun _ _ _ h => h) hS (yields_in (by kernel_rfl) (fun wq hSw => by go_simp)) ?_
        simp only [Act.put, List.setIfInBounds_toArray, List.set_cons_zero, List.set_cons_succ]
        refine wpAnyB_one (i := 8) rfl (by kernel_rfl) (by kernel_rfl) (fun K hK => ?_)
        go_simp
        refine hK.out _ _ ⟨fun _ => hS, ?_⟩
        clear hK K
        try simp only [Act.put, List.setIfInBounds_toArray, List.set_cons_zero, List.set_cons_succ]
        have z1 : wr.drew.frozen? ⟨Bs, 0, none⟩ = false := hbf
        refine wpAnyB_one (i := 9) rfl (by kernel_rfl) (by kernel_rfl) (fun K hK => ?_)
        go_simp
        refine hK.out _ _ ⟨fun h => absurd rfl h, ?_⟩
        clear hK K
        refine wpAnyB_done (by kernel_rfl) ?_ _
        try simp only [Act.put, List.setIfInBounds_toArray, List.set_cons_zero, List.set_cons_succ]
        have hqn : ((q : Nat) : Int).toNat = q := by simp
        rw [hqn] at HF
        have x1 : (rest.extract 0 (q + 1)).size = q + 1 := by rw [ByteArray.size_extract]; omega
        have x2 : (rest.extract (q + 1) rest.size).size = rest.size - (q + 1) := by rw [ByteArray.size_extract]; omega
        generalize rest.extract 0 (q + 1) = x at *
        generalize rest.extract (q + 1) rest.size = r at *
        have hb0 : Boxed (wr.setCell ⟨Bs, 0, none⟩ (.string r)).drew Bs 9 (.string r) := hb.set _
        obtain ⟨fn, tmps, assign, body, hy, hR⟩ := hY pre x (wr.setCell ⟨Bs, 0, none⟩ (.string r)).drew (hJ _ _ _ hj (grown_drew (grownBy_setCell' wr Bs _))) ⟨by omega, by omega, by omega⟩
        clear hS z1 hc hbf
        gi_wp2
        refine ⟨fun h => absurd h (by decide), ?_⟩
        refine hR.mono ?_
        rintro e W3 ⟨rfl, hj3, hb3⟩
        have hb4 : Boxed W3 Bs 9 (.string r) := hb3.trans hb0
        gi_wp2
        go_roundw
        case rel => exact ⟨pre ++ [x], r, hb4, by simp; omega, by rw [sizes_snoc]; omega, (fun h => by simp at h), ⟨f', by omega, by rw [List.append_assoc]; exact HF.out⟩, hj3⟩
        case measure => rw [boxSize_eq hb4, boxSize_eq hb]; omega
      · have hf3 : linesF (f' + 1) rest = [rest] := by
          rw [← hix] at hi0
          simp only [linesF, if_neg hz, if_neg hi0]
        rw [hf3] at hf2
        have HF := Lib.hid hf2
        clear hf2 hf3 hix
        have he0 : (⟨#[]⟩ : ByteArray).size = 0 := rfl
        have hb0 : Boxed (wr.setCell ⟨Bs, 0, none⟩ (.string ⟨#[]⟩)) Bs 9 (.string ⟨#[]⟩) := hb.set _
        obtain ⟨fn, tmps, assign, body, hy, hR⟩ := hY pre rest (wr.setCell ⟨Bs, 0, none⟩ (.string ⟨#[]⟩)) (hJ _ _ _ hj (grownBy_setCell' wr Bs _)) ⟨by omega, by omega, by omega⟩
        gi_wp2_with (refine ⟨trivial, (fun h => absurd h (by decide)), ?_⟩; refine (callsIn_wide.2 (HIX.out _)).mono ?_; rintro e w' ⟨rfl, rfl⟩)
        refine ⟨fun h => absurd h (by decide), ?_⟩
        refine hR.mono ?_
        rintro e W3 ⟨rfl, hj3, hb3⟩
        have hb4 : Boxed W3 Bs 9 (.string ⟨#[]⟩) := hb3.trans hb0
        gi_wp2
        go_roundw
        case rel => exact ⟨pre ++ [rest], ⟨#[]⟩, hb4, by simp; omega, by rw [sizes_snoc]; omega, (fun h => by simp at h), ⟨f', by omega, by rw [linesF_nil f' rfl, List.append_nil]; exact HF.out⟩, hj3⟩
        case measure => rw [boxSize_eq hb4, boxSize_eq hb]; omega
theorem lines_made (s : ByteArray) (w : World) : Calls Tryz.prog 34 #[.string s] w fun e w' => e = .returned (.func (.func 41) #[] #[.pointer (some ⟨w.heap.size, 0, none⟩)]) ∧ w' = w.alloc (.cells #[.string s] 9) := by
  go_enter Tryz.func34, Tryz.ntmps34
  go_wp2
  go_ret
  exact ⟨rfl, rfl⟩
/-- the call makes an own slice of texts, whose bytes are no more than the text's -/
def CutMade (s : ByteArray) (w : World) (e : Ending) (w' : World) : Prop := ∃ v : Value, e = .returned v ∧ (cutL s).length ≤ s.size ∧ sizes (cutL s) ≤ s.size ∧ (0 < s.size → 0 < (cutL s).length) ∧ w'.ownsRow w.heap.size 9 1 v (cutL s).length ((cutL s).map Value.string) ∧ Below w.heap.size w w'
theorem cut_info : (Tryz.prog.info? 9).map (fun i => (i.zero, i.size, i.bytes)) = some (some (.string ⟨#[]⟩), 1, 16) := by kernel_rfl
theorem own_lower {w : World} {B B' : Nat} {e : TypeId} {sz n : Nat} {v : Value} {xs : List Value} (h : w.ownsRow B e sz v n xs) (hB : B' ≤ B) : w.ownsRow B' e sz v n xs := by
  refine ⟨h.1, h.2.imp_right ?_⟩
  rintro ⟨g, cap, cur, h1, h2, h3⟩
  exact ⟨g, cap, cur, h1, Nat.le_trans hB h2, h3⟩
theorem ownsRow_cells {w : World} {B : Nat} {e : TypeId} {sz n g : Nat} {v : Value} {xs : List Value} (h : w.ownsRow B e sz v n xs) (hv : v.ownBlock = some g) : ∃ cur, w.heap[g]? = some (.cells cur e (0, 0)) := by
  rcases h.2 with ⟨rfl, _⟩ | ⟨g', cap, cur, rfl, _, h3, _⟩
  · cases hv
  · cases hv; exact ⟨cur, h3⟩
/-- what a round owes, behind its append and its store -/
theorem cut_round {w W w4 : World} {pre ss : List ByteArray} {x y : ByteArray} {v : Value} {g cap m : Nat} (k1 : Boxed W w.heap.size 39 v) (k2 : ss = pre.map trimNl) (hxy : trimNl x = y) (k3 : sizes ss ≤ sizes pre) (k4 : W.ownsRow (w.heap.size + 2) 9 1 v ss.length (ss.map Value.string)) (k5 : w.heap.size + 2 ≤ W.heap.size) (k6 : Below w.heap.size w W) (hyx : y.size ≤ x.size)
    (hown : w4.ownsRow (w.heap.size + 2) 9 1 (.slice (some ⟨g, 0, none⟩) m cap) (ss.length + 1) (ss.map Value.string ++ [.string y])) (hgrow : (W.alloc (.cells #[.string y] 9)).drew.grownBy w4 v.ownBlock) :
    KeepsOthers W (w4.setCell ⟨w.heap.size, 0, none⟩ (.slice (some ⟨g, 0, none⟩) m cap)) ∧ (w4.setCell ⟨w.heap.size, 0, none⟩ (.slice (some ⟨g, 0, none⟩) m cap)).heap[w.heap.size + 1]? = W.heap[w.heap.size + 1]? ∧
    ∃ (ss' : List ByteArray) (v' : Value), Boxed (w4.setCell ⟨w.heap.size, 0, none⟩ (.slice (some ⟨g, 0, none⟩) m cap)) w.heap.size 39 v' ∧ ss' = (pre ++ [x]).map trimNl ∧ sizes ss' ≤ sizes (pre ++ [x]) ∧ (w4.setCell ⟨w.heap.size, 0, none⟩ (.slice (some ⟨g, 0, none⟩) m cap)).ownsRow (w.heap.size + 2) 9 1 v' ss'.length (ss'.map Value.string) ∧ w.heap.size + 2 ≤ (w4.setCell ⟨w.heap.size, 0, none⟩ (.slice (some ⟨g, 0, none⟩) m cap)).heap.size ∧ Below w.heap.size w (w4.setCell ⟨w.heap.size, 0, none⟩ (.slice (some ⟨g, 0, none⟩) m cap)) := by
  have hg : (W.alloc (.cells #[.string y] 9)).grownBy w4 v.ownBlock := ⟨hgrow.os, hgrow.tape, hgrow.output, hgrow.size, hgrow.block⟩
  obtain ⟨_, h2, _, h4, h5⟩ := k1.appended (n₀ := w.heap.size) (by decide) (own_lower k4 (by omega)) k6.size (Nat.le_refl _) (own_lower hown (by omega)) hg
  have hne : some (w.heap.size + 1) ≠ v.ownBlock := fun hh => by have := (k4.lt _ hh.symm).1; omega
  have hs4 := hg.size
  simp at hs4
  refine ⟨h4, ?_, ss ++ [y], _, h2, by simp [k2, hxy], ?_, ?_, by simp; omega, k6.trans h5⟩
  · exact (heap_setCell_other w4 _ _ _ (by show w.heap.size + 1 ≠ w.heap.size; omega)).trans ((hg.block _ (by simp; omega) hne).trans (heap_alloc_old W _ (by omega)))
  · rw [sizes_snoc, sizes_snoc]; omega
  · have := hown.kept (grownBy_setCell' w4 w.heap.size (.slice (some ⟨g, 0, none⟩) m cap)) (.inr (fun hh => by have := (hown.lt _ hh).1; omega))
    simpa using this
/-- an append of one text, within a round -/
theorem wpIn_append_one {F : Fence} {n : Nat} {o : Oper} {a : Act} {w : World} {K : Act → World → Prop} {Q : Exit → Act → World → Prop} (s x : Operand) (hop : o.op = .call { callee := .builtin .append, args := #[s, x], argTypes := #[39, 39] })
    (base k : Nat) (v : Value) (xs : List Value) (hs : a.eval s = v) (hown : w.ownsRow base 9 1 v k xs) (B : Nat) (y : ByteArray) (hx : a.eval x = .slice (some ⟨B, 0, none⟩) 1 1) (hB : w.heap[B]? = some (.cells #[.string y] 9)) (hk : k ≤ 100000) (hb : base ≤ w.heap.size)
    (hK : ∀ g cap w', w'.ownsRow base 9 1 (.slice (some ⟨g, 0, none⟩) (k + 1) cap) (k + 1) (xs ++ [.string y]) → w.grownBy w' v.ownBlock → K (a.put o.dst (.slice (some ⟨g, 0, none⟩) (k + 1) cap)) w') : Oper.wpIn F n Tryz.prog o a w K Q := by
  obtain ⟨i0, hi, hz0, hz1, hz2⟩ := info_parts cut_info
  obtain ⟨v', w', hrun, r1, r2, r3⟩ := run_append_own (P := Tryz.prog) w base 39 o.type 9 i0 _ 1 16 Tryz.underlying39 hi hz0 hz1 hz2 rfl (by decide) v k xs hown ⟨B, 0, none⟩ 1 1 [.string y] rfl (World.news_of_block hB) (fun u hu => by rw [List.mem_singleton.1 hu]; rfl) (by unfold maxLen; omega) (by omega) hb
  obtain ⟨g, cap, rfl⟩ := ownsRow_succ r1
  unfold Oper.wpIn
  refine ⟨?_, ?_⟩
  · simp [Oper.about, hop, resolve, Target.leads, Sem.run_pure]
  · rw [Oper.semAt_plain F _ _ (by rw [hop]; intro c hc'; cases hc')]
    simp [execOp, hop, resolve, invoke, builtin, hs, hx, hrun, Result.andThen]
    exact hK g cap w' r1 r2
set_option maxRecDepth 100000 in
set_option maxHeartbeats 2000000 in
theorem impl_cut (s : ByteArray) (hs : s.size ≤ 1000) (w : World) : Calls Tryz.prog 20 #[.string s] w (CutMade s w) := by
  obtain ⟨i0, hi, hz0, hz1, hz2⟩ := info_parts cut_info
  unfold CutMade
  have HL := Lib.hid (fun w => lines_made s w)
  refine (callsIn_wide (n := 5)).1 ?_
  refine callsIn_of_wp_marks Tryz.func20 rfl trivial ?_ rfl
  simp only [Tryz.ntmps20, List.size_toArray, List.length_cons, List.length_nil, Nat.reduceAdd, Nat.reduceSub, Array.replicate_succ, Array.replicate_zero, List.push_toArray, List.append_toArray, List.nil_append, List.cons_append]
  gi_wp2_with (refine ⟨trivial, ?_⟩; refine (callsIn_wide.2 (HL.out _)).mono ?_; rintro e w2 ⟨rfl, rfl⟩)
  have bO := Boxed.new w 39 (.slice none 0 0)
  have bS := Boxed.new (w.alloc (.cells #[.slice none 0 0] 39)) 9 (.string s)
  rw [World.size_alloc] at bS
  have hB0 : Below w.heap.size w ((w.alloc (.cells #[.slice none 0 0] 39)).alloc (.cells #[.string s] 9)) := ((Below.refl _ w).alloc (Nat.le_refl _) _).alloc (by simp) _
  generalize hW0 : ((w.alloc (.cells #[.slice none 0 0] 39)).alloc (.cells #[.string s] 9)) = w0 at *
  have hz : w0.heap.size = w.heap.size + 2 := by rw [← hW0]; simp
  have bO0 : Boxed w0 w.heap.size 39 (.slice none 0 0) := by rw [← hW0]; exact bO.alloc _
  clear hW0 bO
  refine range_box (by omega) (gf := 41) (lb := #[.pointer (some ⟨w.heap.size + 1, 0, none⟩)]) rfl (enters_of Tryz.func41 (by kernel_rfl) rfl) (encs := fun x : ByteArray => #[.string x]) (LinePre s) (LineEnd s) (w.heap.size + 1) (by omega) ?seq (fun _ => rfl)
    (fun pre W => ∃ (ss : List ByteArray) (v : Value), Boxed W w.heap.size 39 v ∧ ss = pre.map trimNl ∧ sizes ss ≤ sizes pre ∧ W.ownsRow (w.heap.size + 2) 9 1 v ss.length (ss.map Value.string) ∧ w.heap.size + 2 ≤ W.heap.size ∧ Below w.heap.size w W) ?own ?start
    (fun x => { tmps := #[.string s, undef, .slice none 0 0, .pointer (some ⟨w.heap.size, 0, none⟩), .string x, .string s, .func (.func 41) #[] #[.pointer (some ⟨w.heap.size + 1, 0, none⟩)], .string x, undef, undef, undef, undef, undef, undef], defers := [] }) ?assign ?body ?done
  case seq =>
    intro l J W hb hJ hY hj0
    exact lines_walk _ l (w.heap.size + 1) s hs J hJ hY W (hb.trans bS) hj0
  case own =>
    rintro pre A B row ⟨ss, v, k1, k2, k3, k4, k5, k6⟩ hg hr
    refine ⟨ss, v, k1.kept hg ?_, k2, k3, k4.kept hg ?_, Nat.le_trans k5 hg.size, k6.grown hg k6.size ?_⟩
    · intro hh
      rcases hr _ hh.symm with h | ⟨h, _⟩ <;> omega
    · cases hv : v.ownBlock with
      | none => exact .inl rfl
      | some g =>
        refine .inr ?_
        intro hh
        have h2 := (k4.lt g hv).1
        rcases hr _ hh.symm with h | ⟨_, o, ho, hc⟩
        · omega
        · rw [ownsRow_cells k4 hv |>.choose_spec] at ho
          cases ho
          cases hc
    · intro k hk
      rcases hr _ hk with h | ⟨h, _⟩ <;> omega
  case start => exact ⟨[], _, bO0, rfl, by simp [sizes], World.ownsRow_nil _ _ _ _, by omega, hB0⟩
  case assign =>
    intro l x W K hK
    gi_wp2
    exact hK
  case body =>
    rintro l pre x W ⟨ss, v, k1, k2, k3, k4, k5, k6⟩ hpre
    have hc := k1.cell
    have hlen : ss.length ≤ 1000 := by have := hpre.2.1; rw [k2, List.length_map]; omega
    have hwW := k6.size
    obtain ⟨y, hy⟩ : ∃ y : ByteArray, trimNl x = y := ⟨_, rfl⟩
    have hyx : y.size ≤ x.size := by
      rw [← hy]
      show (Lib.trimSuffix x.data.toList _).toArray.size ≤ x.data.size
      unfold Lib.trimSuffix
      split
      · simp
      · simp
    have HT : Hid (∀ w1 : World, Calls Tryz.prog 35 #[.string x, .string ⟨#[10]⟩] w1 fun e w' => e = .returned (.string y) ∧ w1 = w') := Lib.hid (fun w1 => by
      have := Tryz.strings_TrimSuffix x ⟨#[10]⟩ w1 (by have := hpre.2.1; omega)
      rw [show (⟨(Lib.trimSuffix x.data.toList (⟨#[10]⟩ : ByteArray).data.toList).toArray⟩ : ByteArray) = y from hy] at this
      exact this.mono fun e w' h => ⟨h.1, h.2.symm⟩)
    have HO := Lib.hid k4
    have K2 := Lib.hid k2
    have HY := Lib.hid hy
    clear k2
    have c2 : (W.alloc (.cells #[.string y] 9)).cell? ⟨w.heap.size, 0, none⟩ = some v := Lib.cell_of_heap ((heap_alloc_old W _ k1.lt).trans k1) 0
    clear hy
    gi_wp2_with (fail)
    refine wpIn_region_any (by kernel_rfl) ?_
    change wpAnyIn _ _ _ _ _ _ _ _ _ (World.drew _)
    --ORDERS
    refine wpAnyIn_ready (rs := [0, 1]) (by kernel_rfl) (by simp) ?_
    refine AllReadyIn.cons rfl (fun K hK => ?_) (AllReadyIn.cons rfl (fun K hK => ?_) AllReadyIn.nil)
    · go_simp
      refine hK _ _ ?_
      clear hK K
      try simp only [Act.put, List.setIfInBounds_toArray, List.set_cons_zero, List.set_cons_succ]
      refine wpAnyIn_ready (rs := [1]) (by kernel_rfl) (by simp) ?_
      refine AllReadyIn.cons rfl (fun K hK => ?_) AllReadyIn.nil
      go_simp
      refine hK _ _ ?_
      clear hK K
      try simp only [Act.put, List.setIfInBounds_toArray, List.set_cons_zero, List.set_cons_succ]
      refine wpAnyIn_ready (rs := [2]) (by kernel_rfl) (by simp) ?_
      refine AllReadyIn.cons rfl (fun K hK => ?_) AllReadyIn.nil
      simp only [Region.wanted, if_true]
      go_simp
      refine ⟨trivial, ?_⟩
      refine (CallsIn.inRound l (callsIn_wide.2 (HT.out _))).mono ?_
      rintro e w2 ⟨rfl, rfl⟩
      refine hK _ _ ?_
      clear hK K
      try simp only [Act.put, List.setIfInBounds_toArray, List.set_cons_zero, List.set_cons_succ]
      refine wpAnyIn_ready (rs := [3]) (by kernel_rfl) (by simp) ?_
      refine AllReadyIn.cons rfl (fun K hK => ?_) AllReadyIn.nil
      go_simp
      refine hK _ _ ?_
      clear hK K
      try simp only [Act.put, List.setIfInBounds_toArray, List.set_cons_zero, List.set_cons_succ]
      refine wpAnyIn_ready (rs := [4]) (by kernel_rfl) (by simp) ?_
      refine AllReadyIn.cons rfl (fun K hK => ?_) AllReadyIn.nil
      refine (if_pos (by kernel_rfl)).mpr ?_
      refine wpIn_append_one _ _ rfl (w.heap.size + 2) ss.length v _ rfl (HO.out.alloc _).drew W.heap.size y rfl (heap_alloc_new W _) (by omega) (by simp; omega) ?_
      intro g cap w4 hown hgrow
      have hk4 : w4.heap[w.heap.size]? = some (.cells #[v] 39) := (hgrow.block _ (by simp; have := k1.lt; omega) (k1.not_row (by decide) k4)).trans ((heap_alloc_old W _ k1.lt).trans k1)
      have c4 : w4.cell? ⟨w.heap.size, 0, none⟩ = some v := Lib.cell_of_heap hk4 0
      have z4 : w4.frozen? ⟨w.heap.size, 0, none⟩ = false := Lib.frozen_of_heap hk4 0
      refine hK _ _ ?_
      clear hK K
      try simp only [Act.put, List.setIfInBounds_toArray, List.set_cons_zero, List.set_cons_succ]
      refine wpAnyIn_ready (rs := [5]) (by kernel_rfl) (by simp) ?_
      refine AllReadyIn.cons rfl (fun K hK => ?_) AllReadyIn.nil
      go_simp
      refine hK _ _ ?_
      clear hK K
      try simp only [Act.put, List.setIfInBounds_toArray, List.set_cons_zero, List.set_cons_succ]
      refine wpAnyIn_done (by kernel_rfl) ?_ _
      gi_wp2
      show KeepsOthers _ _ ∧ _ = _ ∧ _
      exact cut_round k1 K2.out HY.out k3 k4 k5 k6 hyx hown hgrow
    · go_simp
      refine hK _ _ ?_
      clear hK K
      try simp only [Act.put, List.setIfInBounds_toArray, List.set_cons_zero, List.set_cons_succ]
      refine wpAnyIn_ready (rs := [0, 2]) (by kernel_rfl) (by simp) ?_
      refine AllReadyIn.cons rfl (fun K hK => ?_) (AllReadyIn.cons rfl (fun K hK => ?_) AllReadyIn.nil)
      · go_simp
        refine hK _ _ ?_
        clear hK K
        try simp only [Act.put, List.setIfInBounds_toArray, List.set_cons_zero, List.set_cons_succ]
        refine wpAnyIn_ready (rs := [2]) (by kernel_rfl) (by simp) ?_
        refine AllReadyIn.cons rfl (fun K hK => ?_) AllReadyIn.nil
        simp only [Region.wanted, if_true]
        go_simp
        refine ⟨trivial, ?_⟩
        refine (CallsIn.inRound l (callsIn_wide.2 (HT.out _))).mono ?_
        rintro e w2 ⟨rfl, rfl⟩
        refine hK _ _ ?_
        clear hK K
        try simp only [Act.put, List.setIfInBounds_toArray, List.set_cons_zero, List.set_cons_succ]
        refine wpAnyIn_ready (rs := [3]) (by kernel_rfl) (by simp) ?_
        refine AllReadyIn.cons rfl (fun K hK => ?_) AllReadyIn.nil
        go_simp
        refine hK _ _ ?_
        clear hK K
        try simp only [Act.put, List.setIfInBounds_toArray, List.set_cons_zero, List.set_cons_succ]
        refine wpAnyIn_ready (rs := [4]) (by kernel_rfl) (by simp) ?_
        refine AllReadyIn.cons rfl (fun K hK => ?_) AllReadyIn.nil
        refine (if_pos (by kernel_rfl)).mpr ?_
        refine wpIn_append_one _ _ rfl (w.heap.size + 2) ss.length v _ rfl (HO.out.alloc _).drew W.heap.size y rfl (heap_alloc_new W _) (by omega) (by simp; omega) ?_
        intro g cap w4 hown hgrow
        have hk4 : w4.heap[w.heap.size]? = some (.cells #[v] 39) := (hgrow.block _ (by simp; have := k1.lt; omega) (k1.not_row (by decide) k4)).trans ((heap_alloc_old W _ k1.lt).trans k1)
        have c4 : w4.cell? ⟨w.heap.size, 0, none⟩ = some v := Lib.cell_of_heap hk4 0
        have z4 : w4.frozen? ⟨w.heap.size, 0, none⟩ = false := Lib.frozen_of_heap hk4 0
        refine hK _ _ ?_
        clear hK K
        try simp only [Act.put, List.setIfInBounds_toArray, List.set_cons_zero, List.set_cons_succ]
        refine wpAnyIn_ready (rs := [5]) (by kernel_rfl) (by simp) ?_
        refine AllReadyIn.cons rfl (fun K hK => ?_) AllReadyIn.nil
        go_simp
        refine hK _ _ ?_
        clear hK K
        try simp only [Act.put, List.setIfInBounds_toArray, List.set_cons_zero, List.set_cons_succ]
        refine wpAnyIn_done (by kernel_rfl) ?_ _
        gi_wp2
        show KeepsOthers _ _ ∧ _ = _ ∧ _
        exact cut_round k1 K2.out HY.out k3 k4 k5 k6 hyx hown hgrow
      · simp only [Region.wanted, if_true]
        go_simp
        refine ⟨trivial, ?_⟩
        refine (CallsIn.inRound l (callsIn_wide.2 (HT.out _))).mono ?_
        rintro e w2 ⟨rfl, rfl⟩
        refine hK _ _ ?_
        clear hK K
        try simp only [Act.put, List.setIfInBounds_toArray, List.set_cons_zero, List.set_cons_succ]
        refine wpAnyIn_ready (rs := [0, 3]) (by kernel_rfl) (by simp) ?_
        refine AllReadyIn.cons rfl (fun K hK => ?_) (AllReadyIn.cons rfl (fun K hK => ?_) AllReadyIn.nil)
        · go_simp
          refine hK _ _ ?_
          clear hK K
          try simp only [Act.put, List.setIfInBounds_toArray, List.set_cons_zero, List.set_cons_succ]
          refine wpAnyIn_ready (rs := [3]) (by kernel_rfl) (by simp) ?_
          refine AllReadyIn.cons rfl (fun K hK => ?_) AllReadyIn.nil
          go_simp
          refine hK _ _ ?_
          clear hK K
          try simp only [Act.put, List.setIfInBounds_toArray, List.set_cons_zero, List.set_cons_succ]
          refine wpAnyIn_ready (rs := [4]) (by kernel_rfl) (by simp) ?_
          refine AllReadyIn.cons rfl (fun K hK => ?_) AllReadyIn.nil
          refine (if_pos (by kernel_rfl)).mpr ?_
          refine wpIn_append_one _ _ rfl (w.heap.size + 2) ss.length v _ rfl (HO.out.alloc _).drew W.heap.size y rfl (heap_alloc_new W _) (by omega) (by simp; omega) ?_
          intro g cap w4 hown hgrow
          have hk4 : w4.heap[w.heap.size]? = some (.cells #[v] 39) := (hgrow.block _ (by simp; have := k1.lt; omega) (k1.not_row (by decide) k4)).trans ((heap_alloc_old W _ k1.lt).trans k1)
          have c4 : w4.cell? ⟨w.heap.size, 0, none⟩ = some v := Lib.cell_of_heap hk4 0
          have z4 : w4.frozen? ⟨w.heap.size, 0, none⟩ = false := Lib.frozen_of_heap hk4 0
          refine hK _ _ ?_
          clear hK K
          try simp only [Act.put, List.setIfInBounds_toArray, List.set_cons_zero, List.set_cons_succ]
          refine wpAnyIn_ready (rs := [5]) (by kernel_rfl) (by simp) ?_
          refine AllReadyIn.cons rfl (fun K hK => ?_) AllReadyIn.nil
          go_simp
          refine hK _ _ ?_
          clear hK K
          try simp only [Act.put, List.setIfInBounds_toArray, List.set_cons_zero, List.set_cons_succ]
          refine wpAnyIn_done (by kernel_rfl) ?_ _
          gi_wp2
          show KeepsOthers _ _ ∧ _ = _ ∧ _
          exact cut_round k1 K2.out HY.out k3 k4 k5 k6 hyx hown hgrow
        · go_simp
          refine hK _ _ ?_
          clear hK K
          try simp only [Act.put, List.setIfInBounds_toArray, List.set_cons_zero, List.set_cons_succ]
          refine wpAnyIn_ready (rs := [0]) (by kernel_rfl) (by simp) ?_
          refine AllReadyIn.cons rfl (fun K hK => ?_) AllReadyIn.nil
          go_simp
          refine hK _ _ ?_
          clear hK K
          try simp only [Act.put, List.setIfInBounds_toArray, List.set_cons_zero, List.set_cons_succ]
          refine wpAnyIn_ready (rs := [4]) (by kernel_rfl) (by simp) ?_
          refine AllReadyIn.cons rfl (fun K hK => ?_) AllReadyIn.nil
          refine (if_pos (by kernel_rfl)).mpr ?_
          refine wpIn_append_one _ _ rfl (w.heap.size + 2) ss.length v _ rfl (HO.out.alloc _).drew W.heap.size y rfl (heap_alloc_new W _) (by omega) (by simp; omega) ?_
          intro g cap w4 hown hgrow
          have hk4 : w4.heap[w.heap.size]? = some (.cells #[v] 39) := (hgrow.block _ (by simp; have := k1.lt; omega) (k1.not_row (by decide) k4)).trans ((heap_alloc_old W _ k1.lt).trans k1)
          have c4 : w4.cell? ⟨w.heap.size, 0, none⟩ = some v := Lib.cell_of_heap hk4 0
          have z4 : w4.frozen? ⟨w.heap.size, 0, none⟩ = false := Lib.frozen_of_heap hk4 0
          refine hK _ _ ?_
          clear hK K
          try simp only [Act.put, List.setIfInBounds_toArray, List.set_cons_zero, List.set_cons_succ]
          refine wpAnyIn_ready (rs := [5]) (by kernel_rfl) (by simp) ?_
          refine AllReadyIn.cons rfl (fun K hK => ?_) AllReadyIn.nil
          go_simp
          refine hK _ _ ?_
          clear hK K
          try simp only [Act.put, List.setIfInBounds_toArray, List.set_cons_zero, List.set_cons_succ]
          refine wpAnyIn_done (by kernel_rfl) ?_ _
          gi_wp2
          show KeepsOthers _ _ ∧ _ = _ ∧ _
          exact cut_round k1 K2.out HY.out k3 k4 k5 k6 hyx hown hgrow
  case done =>
    rintro D xs W hD ⟨e0, e1, e2, e3⟩ ⟨ss, v, k1, k2, k3, k4, k5, k6⟩ hK
    have hc := k1.cell
    gi_wp2
    refine ⟨by simp, .inl ⟨_, _, rfl, run_takeDeferred hK, ?_⟩⟩
    have hcl : ss = cutL s := by rw [k2, e0]; rfl
    subst hcl
    have hll : (cutL s).length = xs.length := by rw [k2, List.length_map]
    exact ⟨_, results_tmp rfl _ _ _, v, rfl, by omega, by omega, by omega, ownsRow_putObj (own_lower k4 (by omega)) _ hK rfl, k6.trans (belowK_b (w := w) (Nat.le_refl _) W D _ _ (by omega) hK rfl rfl)⟩
end Go.Proofs.YtnocllocnoodnaaGreatDoor
