/- The package's door to an escape; the thin package's 'two' and 'Escape'. -/
import Derived.Test.YtigeaoijcjidbaaEscape
namespace Go.Proofs.Ytigeaoijcjidbaa
open Go.RowKit
theorem bel_two {B : Nat} {w a b : World} (h : Below B w a) (k : Below a.heap.size a b) (hB : B ≤ w.heap.size) : Below B w b := h.trans (k.mono (Nat.le_trans hB h.size))
theorem bel_low {B C : Nat} {w a : World} (h : Below B w a) (hC : C ≤ B) : Below C w a := h.mono hC
theorem md_ZZEscape_punct (s : ByteArray) (i : Nat) (w : World) (hs : s.size ≤ 1000) (hi : i + 1 < s.size) (hp : punctB (s[i + 1].toNat : Int) = true) :
    Calls Try.prog 74 #[.string s, .int .i64 i] w (EscMade w.heap.size s i w) := by
  have H := Lib.hid (fun p w => md_parseEscape_punct p s i w hs hi hp)
  clear hp
  go_enter Try.func74, Try.ntmps74
  go_wp2_with (first
    | (go_at_call 89; refine (md_zzState _).mono ?_; rintro e w1 ⟨sb, rfl, hsb1, hsb2, hc6, hf6, hbel⟩)
    | (go_at_call 97; refine (H.out _ _).mono ?_; rintro e w' ⟨b, rfl, hb, hc, hbel2⟩))
  exact bodyPost_ret (res_tmp4 rfl _ _ _) rfl ⟨b, rfl, hb, hc, bel_two hbel hbel2 (Nat.le_refl _)⟩
theorem md_ZZEscape_none (s : ByteArray) (i : Nat) (w : World) (hs : s.size ≤ 1000) (hi : i < s.size) (hp : atB punctB s (i + 1) = false) (hn : atB (fun c => c == 10) s (i + 1) = false) :
    Calls Try.prog 74 #[.string s, .int .i64 i] w (NoneMade w.heap.size w) := by
  have H := Lib.hid (fun p w => md_parseEscape_none p s i w hs hi hp hn)
  clear hp hn
  go_enter Try.func74, Try.ntmps74
  go_wp2_with (first
    | (go_at_call 89; refine (md_zzState _).mono ?_; rintro e w1 ⟨sb, rfl, hsb1, hsb2, hc6, hf6, hbel⟩)
    | (go_at_call 97; refine (H.out _ _).mono ?_; rintro e w' ⟨rfl, hbel2⟩))
  exact bodyPost_ret (res_tmp4 rfl _ _ _) rfl ⟨rfl, bel_two hbel hbel2 (Nat.le_refl _)⟩
theorem md_ZZEscape_hard (s : ByteArray) (i : Nat) (w : World) (hs : s.size ≤ 1000) (hi : i + 1 < s.size) (hn : (s[i + 1].toNat : Int) = 10) :
    Calls Try.prog 74 #[.string s, .int .i64 i] w (HardMade w.heap.size s i w) := by
  have H := Lib.hid (fun b wx h1 h2 h3 h4 => md_parseEscape_hard w.heap.size b s i wx h1 h2 h3 h4 hs hi hn)
  clear hn
  go_enter Try.func74, Try.ntmps74
  go_wp2_with (first
    | (go_at_call 89; refine (md_zzState _).mono ?_; rintro e w1 ⟨sb, rfl, hsb1, hsb2, hc6, hf6, hbel⟩)
    | (go_at_call 97; refine (H.out _ _ hsb1 hsb2 hc6 hf6).mono ?_; rintro e w' ⟨v, k, rfl, hk1, hk2, hbel2⟩))
  exact bodyPost_ret (res_tmp4 rfl _ _ _) rfl ⟨v, k, rfl, hk1, hk2, hbel.trans hbel2⟩
/-- the four results of the thin package's words for inlines -/
def FourOf (N : Value) (a b : Int) (ok : Bool) : Value := .tuple #[N, .int .i64 a, .int .i64 b, .bool ok]
set_option maxRecDepth 100000 in
theorem impl_two_no (v : Value) (a b : Int) (w : World) :
    Calls Try.prog 73 #[v, .int .i64 a, .int .i64 b, .bool false] w fun e w' => e = .returned (FourOf (nodeOf 0 ⟨#[]⟩ false) 0 0 false) ∧ Below w.heap.size w w' := by
  go_enter Try.func73, Try.ntmps73
  go_wp2_with (fail)
  exact bodyPost_ret (v := FourOf (nodeOf 0 ⟨#[]⟩ false) 0 0 false) (by simp [results, go_sem, nodeOf, nodeCells, FourOf]) rfl ⟨rfl, (Below.refl _ _).alloc (Nat.le_refl _) _⟩
theorem nodeCells_size (k : Int) (t : ByteArray) (esc : Bool) : (nodeCells k t esc).size = 16 := rfl
theorem nodeCells_one (k : Int) (t : ByteArray) (esc : Bool) : (nodeCells k t esc).all (·.oneCell') = true := by simp [nodeCells, Value.oneCell']
/-- the type is a struct's, of so many cells -/
def isStruct (P : Program) (t : TypeId) (n : Nat) : Bool := (match P.underlying t with | some (.struct _) => true | _ => false) && (P.info? t).map (·.size) == some n
theorem load_struct {P : Program} {ty : TypeId} {n : Nat} (h : isStruct P ty n = true) (w : World) (g : Nat) (t : TypeId) (cs : Array Value) (fr : Nat × Nat) (hg : w.heap[g]? = some (.cells cs t fr)) (hn : cs.size = n) :
    (loadVar ty ⟨g, 0, none⟩).run P w = .ok (.agg cs) w := by
  unfold isStruct at h
  rw [Bool.and_eq_true, beq_iff_eq] at h
  obtain ⟨h1, h2⟩ := h
  cases hu : P.underlying ty with
  | none => rw [hu] at h1; cases h1
  | some d =>
    rw [hu] at h1
    refine run_loadVar_row w g t ty cs fr d hg hu ?_ (by rw [h2, hn])
    cases d <;> first | rfl | cases h1
theorem row_kept {B : Nat} {w w' : World} (h : Below B w w') {g : Nat} {o : Obj} (hg : w.heap[g]? = some o) (hB : g < B) : w'.heap[g]? = some o := (h.block g hB).trans hg
theorem bel_setRow {B : Nat} {w w' : World} (h : Below B w w') {g : Nat} (hB : B ≤ g) (cs : Array Value) : Below B w (w'.setRow g cs) :=
  ⟨h.os, h.tape, h.output, by simpa using h.size, fun b hb => (setRow_other w' g b cs (by omega)).trans (h.block b hb)⟩
theorem store_node (cs : Array Value) (hn : cs.size = 16) (h1 : cs.all (·.oneCell') = true) (w : World) (g : Nat) (old : Array Value) (hg : w.heap[g]? = some (.cells old 44 (0, 0))) (ho : old.size = 16) :
    (storeCells ⟨g, 0, none⟩ cs.toList).run Try.prog w = .ok () (w.setRow g cs) := by
  have := run_storeCells_from (P := Try.prog) g 44 cs.toList 0 old w hg (by simp; omega) (fun v hv => (Array.all_eq_true_iff_forall_mem.1 h1) v (by simpa using hv))
  simpa using this
set_option maxRecDepth 100000 in
theorem impl_two_yes (v : Value) (k : Int) (t : ByteArray) (esc : Bool) (a b : Int) (w : World)
    (H : ∀ w' : World, Below w.heap.size w w' → Calls Try.prog 96 #[v] w' fun e w2 => e = .returned (nodeOf k t esc) ∧ Below w'.heap.size w' w2) :
    Calls Try.prog 73 #[v, .int .i64 a, .int .i64 b, .bool true] w fun e w' => e = .returned (FourOf (nodeOf k t esc) a b true) ∧ Below w.heap.size w w' := by
  have H := Lib.hid H
  go_enter Try.func73, Try.ntmps73
  go_wp2_with (first
    | (go_at_call 96; refine (H.out _ ((Below.refl _ _).alloc (Nat.le_refl _) _)).mono ?_; rintro e w2 ⟨rfl, hb⟩; have hrow := row_kept hb (heap_alloc_new w _) (by simp)))
  case h_1.isFalse h1 h2 => unfold nodeOf at h1; injection h1 with h1; subst h1; exact absurd (nodeCells_size k t esc) h2
  case h_2 h1 => exact (h1 _ rfl).elim
  rename_i x cs h1 h2
  unfold nodeOf at h1; injection h1 with h1; subst h1
  have hst := store_node (nodeCells k t esc) (nodeCells_size k t esc) (nodeCells_one k t esc) w2 w.heap.size _ hrow rfl
  rw [hst]
  go_wp2
  have hl := load_struct (P := Try.prog) (ty := 44) (n := 16) (by kernel_rfl) (w2.setRow w.heap.size (nodeCells k t esc)) w.heap.size 44 (nodeCells k t esc) (0, 0) (setRow_heap _ _ _ _ _ _ hrow) (nodeCells_size k t esc)
  exact bodyPost_ret (v := FourOf (nodeOf k t esc) a b true) (by simp [results, asAddr, nodeOf, FourOf, hl]) rfl ⟨rfl, bel_setRow (bel_two ((Below.refl _ _).alloc (Nat.le_refl _) _) hb (Nat.le_refl _)) (Nat.le_refl _) _⟩
end Go.Proofs.Ytigeaoijcjidbaa
