/- Texts of one byte and what is put in their places, in plain words; a slice literal of constant strings (after the kit's law for integers). No program stands in this text. -/
import Derived.Great.BuildSlice
import Derived.Lib.Strings
import Derived.Test.YtnocllocnoodnaaGreatDoorRows
import Derived.WalkKit
import Derived.WalkSpells
import Derived.WalkLawsBesides
import Derived.Lib.Hide
import Derived.Below
namespace Go.Proofs.YtnocllocnoodnaaGreatDoor
/-- the table as a list of texts: a text of one byte, what is put in its place, and so on -/
def pairL (K : List UInt8) (E : UInt8 → List UInt8) : List (List UInt8) := K.flatMap fun c => [[c], E c]
/-- a text with them put in -/
def escP (K : List UInt8) (E : UInt8 → List UInt8) (l : List UInt8) : List UInt8 := l.flatMap fun c => if K.contains c then E c else [c]
theorem escP_append (K : List UInt8) (E : UInt8 → List UInt8) (l m : List UInt8) : escP K E (l ++ m) = escP K E l ++ escP K E m := by
  unfold escP; rw [List.flatMap_append]
theorem escP_one (K : List UInt8) (E : UInt8 → List UInt8) (c : UInt8) : escP K E [c] = if K.contains c then E c else [c] := by
  unfold escP; simp
theorem escP_len {K : List UInt8} {E : UInt8 → List UInt8} {n : Nat} (h1 : 1 ≤ n) (hE : ∀ c ∈ K, (E c).length ≤ n) : ∀ l, (escP K E l).length ≤ n * l.length
  | [] => by simp [escP]
  | c :: l => by
    have ih := escP_len h1 hE l
    have e : escP K E (c :: l) = (if K.contains c then E c else [c]) ++ escP K E l := by unfold escP; rw [List.flatMap_cons]
    rw [e, List.length_append, List.length_cons, Nat.mul_add, Nat.mul_one]
    have : (if K.contains c then E c else [c]).length ≤ n := by
      split
      · rename_i hc; exact hE c (by simpa using hc)
      · simpa using h1
    omega
theorem pairL_get (K : List UInt8) (E : UInt8 → List UInt8) : ∀ m (h : m < K.length), (pairL K E)[2 * m]? = some [K[m]] ∧ (pairL K E)[2 * m + 1]? = some (E K[m]) := by
  induction K with
  | nil => intro m h; cases h
  | cons c K ih =>
    intro m h
    have e : pairL (c :: K) E = [c] :: E c :: pairL K E := by unfold pairL; rw [List.flatMap_cons]; rfl
    rw [e]
    cases m with
    | zero => exact ⟨rfl, rfl⟩
    | succ m =>
      have := ih m (by simpa using h)
      rw [show 2 * (m + 1) = 2 * m + 1 + 1 by omega]
      simpa using this
theorem pairL_len (K : List UInt8) (E : UInt8 → List UInt8) : (pairL K E).length = 2 * K.length := by
  induction K with
  | nil => rfl
  | cons c K ih =>
    have e : pairL (c :: K) E = [c] :: E c :: pairL K E := by unfold pairL; rw [List.flatMap_cons]; rfl
    rw [e]; simp; omega
def strV (l : List UInt8) : Value := .string ⟨l.toArray⟩
def pairCells (K : List UInt8) (E : UInt8 → List UInt8) : Array Value := ((pairL K E).map strV).toArray
theorem pairCells_get {K : List UInt8} {E : UInt8 → List UInt8} {m : Nat} (h : m < K.length) : (pairCells K E)[2 * m]? = some (.string ⟨#[K[m]]⟩) ∧ (pairCells K E)[2 * m + 1]? = some (strV (E K[m])) := by
  obtain ⟨h1, h2⟩ := pairL_get K E m h
  unfold pairCells
  rw [List.getElem?_toArray, List.getElem?_toArray, List.getElem?_map, List.getElem?_map, h1, h2]
  exact ⟨rfl, rfl⟩
section
variable {P : Program}
theorem parts_evalS (a : Act) (parts : Array (Nat × Operand)) (zs : List (List UInt8)) (hparts : parts.toList = (zs.zipIdx 0).map fun x => (x.2, Operand.const (strV x.1))) :
    (parts.map fun (i, x) => (i, a.eval x)).toList = ((zs.map strV).zipIdx 0).map fun x => (x.2, x.1) := by
  rw [Array.toList_map, hparts, List.zipIdx_map, List.map_map, List.map_map]
  rfl
/-- a slice literal of constant strings, every place written -/
theorem wpList_buildStr {ops : Array Oper} {rest : List Oper} {o : Oper} {a : Act} {w : World} {Q : Exit → Act → World → Prop} (hg : o.guard = none) (t e : TypeId) (len : Nat) (parts : Array (Nat × Operand)) (ho : o.op = .buildSlice t len parts)
    (zs : List (List UInt8))
    (hu : P.underlying t = some (.slice e)) (hsz : (P.info? e).map (·.size) = some 1) (hz : ((P.info? e).bind (·.zero)).isSome = true)
    (hlen : len = zs.length) (hpos : 0 < len) (hsmall : len ≤ 2 ^ 24)
    (hparts : parts.toList = (zs.zipIdx 0).map fun x => (x.2, Operand.const (strV x.1)))
    (h : wpList P ops Q rest (a.put o.dst (.slice (some ⟨w.heap.size, 0, none⟩) len len)) (w.alloc (.cells (zs.map strV).toArray e))) : wpList P ops Q (o :: rest) a w := by
  cases hie : P.info? e with
  | none => simp [hie] at hsz
  | some ie =>
    simp only [hie, Option.map_some, Option.some.injEq, Option.bind_some] at hsz hz
    obtain ⟨z, hzz⟩ := Option.isSome_iff_exists.1 hz
    refine wpList_buildSlice hg t e len parts ho _ ie z hu hie hzz (by rw [hsz]; omega) (by rw [hsz]; omega) ?_ h
    rw [parts_evalS a parts zs hparts, hsz]
    exact Great.fill_flat _ _ (fun v hv => by obtain ⟨n, _, rfl⟩ := List.mem_map.1 hv; rfl) (by simp [hlen])
end
/-! ### the table of addresses -/
def hexU (n : Nat) : UInt8 := if n < 10 then (48 + n).toUInt8 else (55 + n).toUInt8
def linkE (c : UInt8) : List UInt8 := if c = 38 then [38, 97, 109, 112, 59] else [37, hexU (c.toNat / 16), hexU (c.toNat % 16)]
def linkK : List UInt8 := [34, 38, 60, 62, 92, 32, 96, 91, 93, 94, 123, 125, 0, 1, 2, 3, 4, 5, 6, 7, 8, 11, 12, 14, 15, 16, 17, 18, 19, 20, 21, 22, 23, 24, 25, 26, 27, 28, 29, 30, 31] ++ (List.range 129).map fun n => (127 + n).toUInt8
theorem linkE_len (c : UInt8) : (linkE c).length ≤ 5 := by unfold linkE; split <;> simp
/-! ### the table of HTML -/
def htmlE (c : UInt8) : List UInt8 := if c = 34 then [38, 113, 117, 111, 116, 59] else if c = 38 then [38, 97, 109, 112, 59] else if c = 60 then [38, 108, 116, 59] else [38, 103, 116, 59]
def htmlK : List UInt8 := [34, 38, 60, 62]
theorem htmlE_len (c : UInt8) : (htmlE c).length ≤ 6 := by
  unfold htmlE
  split
  · simp
  · split
    · simp
    · split <;> simp
end Go.Proofs.YtnocllocnoodnaaGreatDoor
namespace Go.Proofs.YtnocllocnoodnaaGreatDoor
open Go.RowKit
/-- a slice of pairs in a block of the call's own -/
def PairsMade (K : List UInt8) (E : UInt8 → List UInt8) (w : World) (e : Ending) (w' : World) : Prop :=
  e = .returned (.slice (some ⟨w.heap.size, 0, none⟩) (2 * K.length) (2 * K.length)) ∧ w' = w.alloc (.cells (pairCells K E) 9)
section
variable {P : Program} {Q : Exit → Act → World → Prop} {a : Act} {w : World}
/-- two pieces of code, one behind the other, what stands between them said outright -/
theorem seq_to {x y : Code} (a1 : Act) (w1 : World) (h1 : x.wp P (Exit.then (fun b v => b = a1 ∧ v = w1) Q) a w) (h2 : y.wp P Q a1 w1) : (Code.seq x y).wp P Q a w :=
  wp_seq (wp_mono h1 fun e b v h => by
    cases e
    case normal => obtain ⟨rfl, rfl⟩ := h; exact h2
    all_goals exact h)
/-- the operations of a region by another name -/
theorem rest_any {ops : Array Oper} {l : List Oper} (h : ∀ O : Array Oper, wpList P O Q l a w) : wpList P ops Q l a w := h ops
end
theorem link_len : 340 = 2 * linkK.length := by decide +kernel
set_option maxHeartbeats 1000000 in
set_option maxRecDepth 1000000 in
theorem md_htmlLinkEscaper (w : World) : Calls Tryz.prog 115 #[] w (PairsMade linkK linkE w) := by
  unfold PairsMade
  rw [← link_len]
  unfold pairCells
  go_enter Tryz.func115, Tryz.ntmps115
  refine seq_to ⟨#[.slice none 0 0, undef], []⟩ w ?h1 ?h2
  case h1 =>
    go_wp2
    first | exact ⟨rfl, rfl⟩ | exact ⟨trivial, trivial⟩ | exact ⟨trivial, rfl⟩ | trivial
  case h2 =>
    refine seq_to ⟨#[.slice (some ⟨w.heap.size, 0, none⟩) 340 340, .slice (some ⟨w.heap.size, 0, none⟩) 340 340], []⟩ (w.alloc (.cells ((pairL linkK linkE).map strV).toArray 9)) ?h1 ?h2
    case h1 =>
      apply wp_region_lit
      refine wpList_buildStr rfl 213 9 340 _ rfl (pairL linkK linkE) (by kernel_rfl) (by kernel_rfl) (by kernel_rfl) (by kernel_rfl) (by decide) (by decide) (by kernel_rfl) ?_
      refine rest_any fun O => ?_
      generalize pairL linkK linkE = ZS
      go_wp2
      first | exact ⟨rfl, rfl⟩ | exact ⟨trivial, trivial⟩ | exact ⟨trivial, rfl⟩ | trivial
    case h2 =>
      go_wp2
      go_ret
      exact ⟨rfl, rfl⟩
theorem html_len : 8 = 2 * htmlK.length := by decide +kernel
set_option maxHeartbeats 1000000 in
set_option maxRecDepth 1000000 in
theorem md_htmlEscaper (w : World) : Calls Tryz.prog 105 #[] w (PairsMade htmlK htmlE w) := by
  unfold PairsMade
  rw [← html_len]
  unfold pairCells
  go_enter Tryz.func105, Tryz.ntmps105
  refine seq_to ⟨#[.slice none 0 0, undef], []⟩ w ?h1 ?h2
  case h1 =>
    go_wp2
    first | exact ⟨rfl, rfl⟩ | exact ⟨trivial, trivial⟩ | exact ⟨trivial, rfl⟩ | trivial
  case h2 =>
    refine seq_to ⟨#[.slice (some ⟨w.heap.size, 0, none⟩) 8 8, .slice (some ⟨w.heap.size, 0, none⟩) 8 8], []⟩ (w.alloc (.cells ((pairL htmlK htmlE).map strV).toArray 9)) ?h1 ?h2
    case h1 =>
      apply wp_region_lit
      refine wpList_buildStr rfl 213 9 8 _ rfl (pairL htmlK htmlE) (by kernel_rfl) (by kernel_rfl) (by kernel_rfl) (by kernel_rfl) (by decide) (by decide) (by kernel_rfl) ?_
      refine rest_any fun O => ?_
      generalize pairL htmlK htmlE = ZS
      go_wp2
      first | exact ⟨rfl, rfl⟩ | exact ⟨trivial, trivial⟩ | exact ⟨trivial, rfl⟩ | trivial
    case h2 =>
      go_wp2
      go_ret
      exact ⟨rfl, rfl⟩
end Go.Proofs.YtnocllocnoodnaaGreatDoor
