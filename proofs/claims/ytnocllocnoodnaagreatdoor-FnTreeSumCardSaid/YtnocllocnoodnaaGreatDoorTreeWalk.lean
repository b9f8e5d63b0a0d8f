/- FnTreeSum: the law's walk, from what 'built' makes. -/
import Derived.Test.YtnocllocnoodnaaGreatDoorDocOf
namespace Go.Proofs.YtnocllocnoodnaaGreatDoor
open Go.RowKit
set_option linter.unusedSimpArgs false
theorem few_yes (ao : Option Addr) (n c : Nat) (w : World) (h : n ≤ 300) : Calls Tryz.prog 4 #[.slice ao n c] w fun e w' => e = .returned (.bool true) ∧ w = w' := by
  go_enter Tryz.func4, Tryz.ntmps4
  go_wp2
  go_ret
  exact ⟨by simp; omega, rfl⟩
theorem few_no (ao : Option Addr) (n c : Nat) (w : World) (h : 300 < n) : Calls Tryz.prog 4 #[.slice ao n c] w fun e w' => e = .returned (.bool false) ∧ w = w' := by
  go_enter Tryz.func4, Tryz.ntmps4
  go_wp2
  go_ret
  exact ⟨by simp; omega, rfl⟩
theorem bytes_app (a b : List UInt8) : (⟨(a ++ b).toArray⟩ : ByteArray) = ⟨a.toArray⟩ ++ ⟨b.toArray⟩ := ByteArray.ext (by simp)
theorem sum_one (T : List UInt8) : sumT (fun _ => T) 1 = T := by simp [sumT]
/-- a store of a struct into a variable just made, whose place is told -/
theorem wpList_store_newp {ops : Array Oper} {rest : List Oper} {op : Oper} {a : Act} {w : World} {Q : Exit → Act → World → Prop} (hgd : op.guard = none) (ty : TypeId) (n p : Nat) (hp : w.heap.size = p) (x y : Operand) (ho : op.op = .store ty x y)
    (hi : (Tryz.prog.info? ty).map (·.size) = some n) (old cells : Array Value) (hold : old.size = n) (hx : a.eval x = .pointer (some ⟨p, 0, none⟩)) (hy : a.eval y = .agg cells)
    (hs : cells.size = n) (h1 : cells.all (·.oneCell') = true)
    (h : wpList Tryz.prog ops Q rest (a.put op.dst undef) (w.alloc (.cells cells ty))) : wpList Tryz.prog ops Q (op :: rest) a (w.alloc (.cells old ty)) := by
  subst hp
  exact wpList_store_new hgd ty n x y ho hi old cells hold hx hy hs h1 h
/-- a load of a struct, at a guarded step -/
theorem wpList_load_guard {ops : Array Oper} {rest : List Oper} {op : Oper} {a : Act} {w : World} {Q : Exit → Act → World → Prop} (hw : Region.wanted op (yielded ops a.tmps) = true) (ty : TypeId) (x : Operand) (ho : op.op = .load ty x)
    (b o : Nat) (hx : a.eval x = .pointer (some ⟨b, o, none⟩)) (cs : List Value) (d : TypeDesc) (hc : w.rangeAt b o cs)
    (hu : Tryz.prog.underlying ty = some d) (hd : d.isRow = true) (hi : (Tryz.prog.info? ty).map (·.size) = some cs.length)
    (h : wpList Tryz.prog ops Q rest (a.put op.dst (.agg cs.toArray)) w) : wpList Tryz.prog ops Q (op :: rest) a w := by
  unfold wpList
  rw [if_pos hw]
  exact .inl (wp_load_mid ty x ho b o hx cs d hc hu hd hi h)
theorem quote_text (S : List UInt8) : (⟨([60, 98, 108, 111, 99, 107, 113, 117, 111, 116, 101, 62, 10] ++ (S ++ [60, 47, 98, 108, 111, 99, 107, 113, 117, 111, 116, 101, 62, 10])).toArray⟩ : ByteArray) = (⟨#[60, 98, 108, 111, 99, 107, 113, 117, 111, 116, 101, 62, 10]⟩ : ByteArray) ++ ⟨S.toArray⟩ ++ (⟨#[60, 47, 98, 108, 111, 99, 107, 113, 117, 111, 116, 101, 62, 10]⟩ : ByteArray) := by
  rw [bytes_app, bytes_app, ByteArray.append_assoc]
/-- HTMLOf of a document of one node -/
theorem html_one {T : List UInt8} {lo hi p : Nat} {cs : Array Value} {w w2 : World} (h : BuildsTo false T lo hi cs w) (hT : T.length ≤ 1000000) (h1 : hi ≤ w.heap.size) (h2 : lo ≤ w.heap.size) (hp : w.heap.size = p) (hw2 : w2 = w.alloc (.cells cs 33)) :
    Calls Tryz.prog 7 #[.agg #[.int .i64 1, .string ⟨#[]⟩, .string ⟨#[]⟩, .int .i64 0, .string ⟨#[]⟩, .bool false, .slice none 0 0, .slice (some ⟨p, 0, none⟩) 1 1, .int .i64 0, .int .i64 0, .string ⟨#[]⟩, .int .i64 0, .bool false, .bool false, .bool false, .slice none 0 0]] w2 fun e w' => e = .returned (.string ⟨T.toArray⟩) ∧ Below w2.heap.size w2 w' := by
  subst hp hw2
  have := impl_HTMLOf (fun _ => T) 1 lo (w.heap.size + 1) _ _ (row_single h h1 h2) (by simp) (by rw [sum_one]; exact hT)
  rw [sum_one] at this
  exact this
theorem sum_len {Ts : Nat → List UInt8} {n M : Nat} (h : ∀ i, i < n → (Ts i).length ≤ M) (hn : n ≤ 4) (hM : M ≤ 100000) : (sumT Ts n).length ≤ 400000 := by
  have h1 := sumT_const Ts M n h
  have h2 : n * M ≤ 4 * 100000 := Nat.mul_le_mul hn hM
  omega
set_option maxHeartbeats 8000000 in
set_option maxRecDepth 100000 in
theorem walk_few (n c M : Nat) (ao : Option Addr) (w : World) (hn : n ≤ 300) (hM : M ≤ 100000) (HB : Calls Tryz.prog 5 #[.slice ao n c] w (BuiltMade M w)) : Calls Tryz.prog 3 #[.slice ao n c] w fun e w' => e = .returned (.bool true) ∧ Below w.heap.size w w' := by
  obtain ⟨j0, hj, hz0, hz1, hz2⟩ := info_parts node_info
  have hi16 : (Tryz.prog.info? 33).map (·.size) = some 16 := by rw [hj]; simp [hz1]
  have HI := Lib.hid hi16
  have HI10 := Lib.hid spc_info
  have HBT := Lib.hid HB
  have HF := Lib.hid (fun w => few_yes ao n c w hn)
  clear hj hz0 hz1 hz2 hi16 HB
  unfold BuiltMade at HBT
  go_enter Tryz.func3, Tryz.ntmps3
  go_wp2_with (first
    | (refine wpList_store_new rfl 27 10 _ _ rfl HI10.out _ #[.int .i64 1, .string ⟨#[]⟩, .string ⟨#[]⟩, .int .i64 0, .string ⟨#[]⟩, .bool false, .slice none 0 0, (.slice (some ⟨kb, 0, none⟩) css.length kc), .int .i64 0, .int .i64 0] rfl rfl rfl rfl HONE.out ?_)
    | (refine wpList_store_new rfl 33 16 _ _ rfl HI.out _ #[.int .i64 1, .string ⟨#[]⟩, .string ⟨#[]⟩, .int .i64 0, .string ⟨#[]⟩, .bool false, .slice none 0 0, (.slice (some ⟨ob, 0, none⟩) css.length oc), .int .i64 0, .int .i64 0, .string ⟨#[]⟩, .int .i64 0, .bool false, .bool false, .bool false, .slice none 0 0] rfl rfl rfl rfl HONE2.out ?_)
    | (refine wpList_load_mid rfl 27 _ rfl w2.heap.size 0 rfl [.int .i64 1, .string ⟨#[]⟩, .string ⟨#[]⟩, .int .i64 0, .string ⟨#[]⟩, .bool false, .slice none 0 0, (.slice (some ⟨kb, 0, none⟩) css.length kc), .int .i64 0, .int .i64 0] _ (range_whole (heap_alloc_new w2 _)) Tryz.underlying27 rfl HI10.out ?_)
    | (go_at_call 6; refine (HGV.out _ rfl).mono ?_; rintro e w4 ⟨_, rfl, hr, hb4⟩; obtain ⟨ob, oc, cs2, rfl, hl2, hn0, hn1, hlo, hhi, hrow, hbt⟩ := hr; have HONE2 : Hid ((#[.int .i64 1, .string ⟨#[]⟩, .string ⟨#[]⟩, .int .i64 0, .string ⟨#[]⟩, .bool false, .slice none 0 0, (.slice (some ⟨ob, 0, none⟩) css.length oc), .int .i64 0, .int .i64 0, .string ⟨#[]⟩, .int .i64 0, .bool false, .bool false, .bool false, .slice none 0 0] : Array Value).all (·.oneCell') = true) := Lib.hid (by simp [Value.oneCell']); have HROW := Lib.hid hrow; have HBTS := Lib.hid hbt; have HB4 := Lib.hid hb4; clear hrow hbt hb4)
    | (go_at_call 4; refine (HF.out _).mono ?_; rintro e w1 ⟨rfl, rfl⟩)
    | (go_at_call 5; refine HBT.out.mono ?_; rintro e w2 ⟨tx, css, _, rfl, hnd, hc0, hc4, hb2⟩; obtain ⟨kb, kc, rfl, _, _⟩ := hnd.1.form hc0; have HONE : Hid ((#[.int .i64 1, .string ⟨#[]⟩, .string ⟨#[]⟩, .int .i64 0, .string ⟨#[]⟩, .bool false, .slice none 0 0, (.slice (some ⟨kb, 0, none⟩) css.length kc), .int .i64 0, .int .i64 0] : Array Value).all (·.oneCell') = true) := Lib.hid (by simp [Value.oneCell']); obtain ⟨Ts, hTs, hgv⟩ := doc_given hnd hc0 (by omega); have HGV := Lib.hid (fun (w' : World) (hw' : w' = w2.alloc (.cells #[.int .i64 1, .string ⟨#[]⟩, .string ⟨#[]⟩, .int .i64 0, .string ⟨#[]⟩, .bool false, .slice none 0 0, (.slice (some ⟨kb, 0, none⟩) css.length kc), .int .i64 0, .int .i64 0] 27)) => (show Calls Tryz.prog 6 #[.agg #[.int .i64 1, .string ⟨#[]⟩, .string ⟨#[]⟩, .int .i64 0, .string ⟨#[]⟩, .bool false, .slice none 0 0, (.slice (some ⟨kb, 0, none⟩) css.length kc), .int .i64 0, .int .i64 0], .bool false] w' _ from hgv 0 0 w' (by subst hw'; exact fun k _ _ hk => heap_alloc_old w2 _ hk.lt) (by subst hw'; simp))); have HTS := Lib.hid hTs; have HB2 := Lib.hid hb2; clear hnd hgv hTs hb2 HBT))
  have HR0 : Hid (RowBuilds (fun _ => false) Ts css.length (w2.alloc (.cells #[.int .i64 1, .string ⟨#[]⟩, .string ⟨#[]⟩, .int .i64 0, .string ⟨#[]⟩, .bool false, .slice none 0 0, (.slice (some ⟨kb, 0, none⟩) css.length kc), .int .i64 0, .int .i64 0] 27)).heap.size w4.heap.size (.slice (some ⟨ob, 0, none⟩) css.length oc) w4) := Lib.hid ⟨ob, oc, cs2, rfl, hl2, hn0, hn1, hlo, hhi, HROW.out, HBTS.out⟩
  have hlo4 := HB4.out.size
  have hsl := sum_len HTS.out hc4 hM
  have HNL := Lib.hid (rows_nl HR0.out (Nat.le_refl _) 0 hc0)
  have hlw : w2.heap.size ≤ (w2.alloc (.cells #[.int .i64 1, .string ⟨#[]⟩, .string ⟨#[]⟩, .int .i64 0, .string ⟨#[]⟩, .bool false, .slice none 0 0, (.slice (some ⟨kb, 0, none⟩) css.length kc), .int .i64 0, .int .i64 0] 27)).heap.size := by simp
  generalize (w2.alloc (.cells #[.int .i64 1, .string ⟨#[]⟩, .string ⟨#[]⟩, .int .i64 0, .string ⟨#[]⟩, .bool false, .slice none 0 0, (.slice (some ⟨kb, 0, none⟩) css.length kc), .int .i64 0, .int .i64 0] 27)).heap.size = lo at *
  have h5r := heap_alloc_new w4 (.cells #[.int .i64 1, .string ⟨#[]⟩, .string ⟨#[]⟩, .int .i64 0, .string ⟨#[]⟩, .bool false, .slice none 0 0, (.slice (some ⟨ob, 0, none⟩) css.length oc), .int .i64 0, .int .i64 0, .string ⟨#[]⟩, .int .i64 0, .bool false, .bool false, .bool false, .slice none 0 0] 33)
  have h5k : ∀ b, b < w4.heap.size → (w4.alloc (.cells #[.int .i64 1, .string ⟨#[]⟩, .string ⟨#[]⟩, .int .i64 0, .string ⟨#[]⟩, .bool false, .slice none 0 0, (.slice (some ⟨ob, 0, none⟩) css.length oc), .int .i64 0, .int .i64 0, .string ⟨#[]⟩, .int .i64 0, .bool false, .bool false, .bool false, .slice none 0 0] 33)).heap[b]? = w4.heap[b]? := fun b hb => heap_alloc_old w4 _ hb
  have h5z : w4.heap.size + 1 ≤ (w4.alloc (.cells #[.int .i64 1, .string ⟨#[]⟩, .string ⟨#[]⟩, .int .i64 0, .string ⟨#[]⟩, .bool false, .slice none 0 0, (.slice (some ⟨ob, 0, none⟩) css.length oc), .int .i64 0, .int .i64 0, .string ⟨#[]⟩, .int .i64 0, .bool false, .bool false, .bool false, .slice none 0 0] 33)).heap.size := by simp
  have hB5 : Below w.heap.size w (w4.alloc (.cells #[.int .i64 1, .string ⟨#[]⟩, .string ⟨#[]⟩, .int .i64 0, .string ⟨#[]⟩, .bool false, .slice none 0 0, (.slice (some ⟨ob, 0, none⟩) css.length oc), .int .i64 0, .int .i64 0, .string ⟨#[]⟩, .int .i64 0, .bool false, .bool false, .bool false, .slice none 0 0] 33)) := by
    have hs2 := HB2.out.size
    exact ((HB2.out.alloc hs2 _).trans (HB4.out.mono (by omega))).alloc (by omega) _
  generalize w4.alloc (.cells #[.int .i64 1, .string ⟨#[]⟩, .string ⟨#[]⟩, .int .i64 0, .string ⟨#[]⟩, .bool false, .slice none 0 0, (.slice (some ⟨ob, 0, none⟩) css.length oc), .int .i64 0, .int .i64 0, .string ⟨#[]⟩, .int .i64 0, .bool false, .bool false, .bool false, .slice none 0 0] 33) = w5 at *
  obtain ⟨S, hS0, hSs, hSe⟩ : ∃ S : Nat → ByteArray, S 0 = ⟨#[]⟩ ∧ (∀ k, S (k + 1) = S k ++ ⟨(Ts k).toArray⟩) ∧ ∀ k, (⟨(sumT Ts k).toArray⟩ : ByteArray) = S k := ⟨fun k => ⟨(sumT Ts k).toArray⟩, rfl, fun k => bytes_app _ _, fun _ => rfl⟩
  have hSz : ∀ k, k ≤ css.length → (S k).size ≤ 400000 := fun k hk => by
    rw [← hSe k]
    show (sumT Ts k).toArray.size ≤ _
    have := sumT_mono Ts hk
    simp
    omega
  have HSZ := Lib.hid hSz
  have HSS := Lib.hid hSs
  have HSE := Lib.hid hSe
  have H5R := Lib.hid h5r
  have H5K := Lib.hid h5k
  have HB5 := Lib.hid hB5
  clear h5r h5k hB5 hSs hSe hSz HBTS HROW
  go_loopg [6, 26] css.length (fun gg all i wx => ∃ k, k + gg = css.length ∧ i = .int .i64 k ∧ all = .string (S k) ∧ Hid (Below w5.heap.size w5 wx))
  case atStart => exact ⟨0, by omega, rfl, by rw [hS0], Lib.hid (Below.refl _ _)⟩
  case round =>
    obtain ⟨k, hk, rfl, rfl, HBL⟩ := hrel
    clear hS0
    have hsr := HBL.out.size
    have hrb := HR0.out.keep (w2 := wr) (fun b _ hb => (HBL.out.block b (by omega)).trans (H5K.out b hb))
    by_cases hlt : k < css.length
    · obtain ⟨kb', c', cs3, he, hl3, _, _, _, _, hrow3, hbt3⟩ := hrb
      simp only [Value.slice.injEq, Option.some.injEq, Addr.mk.injEq, true_and, and_true] at he
      obtain ⟨rfl, rfl⟩ := he
      have hsz := fun c (hc : c ∈ cs3) => (show c.size = 16 from by obtain ⟨i, hi, rfl⟩ := List.getElem_of_mem hc; exact (hbt3 i hi).1)
      have hrng := row_range hrow3 hsz (k := k) (by omega)
      have hbt := hbt3 k (by omega)
      generalize cs3[k] = cs at *
      obtain ⟨x0, x1, x2, x3, x4, x5, x6, x7, x8, x9, x10, x11, x12, x13, x14, x15, rfl⟩ := arr16 hbt.1
      have HONEX := Lib.hid hbt.2.1
      have HRNG := Lib.hid hrng
      obtain ⟨y, hy⟩ : ∃ y : ByteArray, (⟨(Ts k).toArray⟩ : ByteArray) = y := ⟨_, rfl⟩
      have hyz : y.size ≤ 100000 := by rw [← hy]; show (Ts k).toArray.size ≤ _; have := HTS.out k hlt; simp; omega
      have hSz := HSZ.out k (by omega)
      have hst : S (k + 1) = S k ++ y := by rw [HSS.out, hy]
      have HST := Lib.hid hst
      have htm := (html_one (p := wr.heap.size + 1) (hbt.keep (w2 := wr.alloc (.cells #[x0, x1, x2, x3, x4, x5, x6, x7, x8, x9, x10, x11, x12, x13, x14, x15] 33)) (fun b _ hb => heap_alloc_old wr _ (by omega))) (Nat.le_trans (HTS.out k hlt) (by omega)) (by simp; omega) (by simp; omega) (by simp) (w2 := (wr.alloc (.cells #[x0, x1, x2, x3, x4, x5, x6, x7, x8, x9, x10, x11, x12, x13, x14, x15] 33)).alloc (.cells #[x0, x1, x2, x3, x4, x5, x6, x7, x8, x9, x10, x11, x12, x13, x14, x15] 33)) rfl)
      rw [hy] at htm
      have HTM := Lib.hid htm
      clear hrng hbt hbt3 hrow3 hsz hst hy htm
      go_wp2_with (first
        | (refine wpList_load_mid rfl 33 _ rfl ob (k * 16) rfl [x0, x1, x2, x3, x4, x5, x6, x7, x8, x9, x10, x11, x12, x13, x14, x15] _ HRNG.out Tryz.underlying33 rfl HI.out ?_)
        | (refine wpList_load_mid rfl 33 _ rfl wr.heap.size 0 rfl [x0, x1, x2, x3, x4, x5, x6, x7, x8, x9, x10, x11, x12, x13, x14, x15] _ (range_whole (heap_alloc_new wr _)) Tryz.underlying33 rfl HI.out ?_)
        | (refine wpList_store_new rfl 33 16 _ _ rfl HI.out _ #[x0, x1, x2, x3, x4, x5, x6, x7, x8, x9, x10, x11, x12, x13, x14, x15] rfl rfl rfl rfl HONEX.out ?_)
        | (go_at_call 7; refine HTM.out.mono ?_; rintro e w6 ⟨rfl, hb6⟩; have HB6 := Lib.hid hb6; clear hb6))
      go_roundg (css.length - (k + 1))
      case measure => omega
      case rel => exact ⟨k + 1, by omega, by go_num, by rw [HST.out], Lib.hid (((HBL.out.alloc hsr _).alloc (by simp; omega) _).trans (HB6.out.mono (by simp; omega)))⟩
    · have hkn : k = css.length := by omega
      subst hkn
      have hSz := HSZ.out css.length (Nat.le_refl _)
      have hse := HSE.out css.length
      have hne : ¬ S css.length = ⟨#[]⟩ := by
        intro h
        have h1 := HNL.out
        have h2 : 0 < (sumT Ts css.length).length := by
          have h3 := sumT_mono Ts (show 1 ≤ css.length from hc0)
          have h4 : 0 < (sumT Ts 1).length := by
            simp only [sumT, List.nil_append]
            cases hts : Ts 0 with
            | nil => rw [hts] at h1; cases h1
            | cons => simp
          omega
        rw [← hse] at h
        have h5 := congrArg ByteArray.size h
        have h6 : (sumT Ts css.length).toArray.size = 0 := h5
        simp at h6
        rw [h6] at h2
        simp at h2
      have h5w : wr.heap[w4.heap.size]? = some (.cells #[.int .i64 1, .string ⟨#[]⟩, .string ⟨#[]⟩, .int .i64 0, .string ⟨#[]⟩, .bool false, .slice none 0 0, (.slice (some ⟨ob, 0, none⟩) css.length oc), .int .i64 0, .int .i64 0, .string ⟨#[]⟩, .int .i64 0, .bool false, .bool false, .bool false, .slice none 0 0] 33) := (HBL.out.block _ (by omega)).trans H5R.out
      have k7 : wr.cell? ⟨w4.heap.size, 7, none⟩ = some (.slice (some ⟨ob, 0, none⟩) css.length oc) := Lib.cell_of_heap h5w 7
      have hq := built_quote Ts css.length lo w4.heap.size _ wr hrb
      have W9 : ((wr.alloc (.cells #[.int .i64 2, .string ⟨#[]⟩, .string ⟨#[]⟩, .int .i64 0, .string ⟨#[]⟩, .bool false, .slice none 0 0, (.slice (some ⟨ob, 0, none⟩) css.length oc), .int .i64 0, .int .i64 0, .string ⟨#[]⟩, .int .i64 0, .bool false, .bool false, .bool false, .slice none 0 0] 33)).alloc (.cells #[.int .i64 1, .string ⟨#[]⟩, .string ⟨#[]⟩, .int .i64 0, .string ⟨#[]⟩, .bool false, .slice none 0 0, .slice (some ⟨wr.heap.size, 0, none⟩) 1 1, .int .i64 0, .int .i64 0, .string ⟨#[]⟩, .int .i64 0, .bool false, .bool false, .bool false, .slice none 0 0] 33)).heap[wr.heap.size + 1]? = some (.cells #[.int .i64 1, .string ⟨#[]⟩, .string ⟨#[]⟩, .int .i64 0, .string ⟨#[]⟩, .bool false, .slice none 0 0, .slice (some ⟨wr.heap.size, 0, none⟩) 1 1, .int .i64 0, .int .i64 0, .string ⟨#[]⟩, .int .i64 0, .bool false, .bool false, .bool false, .slice none 0 0] 33) := by have := heap_alloc_new (wr.alloc (.cells #[.int .i64 2, .string ⟨#[]⟩, .string ⟨#[]⟩, .int .i64 0, .string ⟨#[]⟩, .bool false, .slice none 0 0, (.slice (some ⟨ob, 0, none⟩) css.length oc), .int .i64 0, .int .i64 0, .string ⟨#[]⟩, .int .i64 0, .bool false, .bool false, .bool false, .slice none 0 0] 33)) (.cells #[.int .i64 1, .string ⟨#[]⟩, .string ⟨#[]⟩, .int .i64 0, .string ⟨#[]⟩, .bool false, .slice none 0 0, .slice (some ⟨wr.heap.size, 0, none⟩) 1 1, .int .i64 0, .int .i64 0, .string ⟨#[]⟩, .int .i64 0, .bool false, .bool false, .bool false, .slice none 0 0] 33); simpa using this
      have W5 : ((wr.alloc (.cells #[.int .i64 2, .string ⟨#[]⟩, .string ⟨#[]⟩, .int .i64 0, .string ⟨#[]⟩, .bool false, .slice none 0 0, (.slice (some ⟨ob, 0, none⟩) css.length oc), .int .i64 0, .int .i64 0, .string ⟨#[]⟩, .int .i64 0, .bool false, .bool false, .bool false, .slice none 0 0] 33)).alloc (.cells #[.int .i64 1, .string ⟨#[]⟩, .string ⟨#[]⟩, .int .i64 0, .string ⟨#[]⟩, .bool false, .slice none 0 0, .slice (some ⟨wr.heap.size, 0, none⟩) 1 1, .int .i64 0, .int .i64 0, .string ⟨#[]⟩, .int .i64 0, .bool false, .bool false, .bool false, .slice none 0 0] 33)).heap[w4.heap.size]? = some (.cells #[.int .i64 1, .string ⟨#[]⟩, .string ⟨#[]⟩, .int .i64 0, .string ⟨#[]⟩, .bool false, .slice none 0 0, (.slice (some ⟨ob, 0, none⟩) css.length oc), .int .i64 0, .int .i64 0, .string ⟨#[]⟩, .int .i64 0, .bool false, .bool false, .bool false, .slice none 0 0] 33) := (heap_alloc_old _ _ (by simp; omega)).trans ((heap_alloc_old _ _ (by omega)).trans h5w)
      have hko : ∀ b, b < wr.heap.size → ((wr.alloc (.cells #[.int .i64 2, .string ⟨#[]⟩, .string ⟨#[]⟩, .int .i64 0, .string ⟨#[]⟩, .bool false, .slice none 0 0, (.slice (some ⟨ob, 0, none⟩) css.length oc), .int .i64 0, .int .i64 0, .string ⟨#[]⟩, .int .i64 0, .bool false, .bool false, .bool false, .slice none 0 0] 33)).alloc (.cells #[.int .i64 1, .string ⟨#[]⟩, .string ⟨#[]⟩, .int .i64 0, .string ⟨#[]⟩, .bool false, .slice none 0 0, .slice (some ⟨wr.heap.size, 0, none⟩) 1 1, .int .i64 0, .int .i64 0, .string ⟨#[]⟩, .int .i64 0, .bool false, .bool false, .bool false, .slice none 0 0] 33)).heap[b]? = wr.heap[b]? := fun b hb => (heap_alloc_old _ _ (by simp; omega)).trans (heap_alloc_old _ _ hb)
      have hrs := (row_single (cs := #[.int .i64 2, .string ⟨#[]⟩, .string ⟨#[]⟩, .int .i64 0, .string ⟨#[]⟩, .bool false, .slice none 0 0, (.slice (some ⟨ob, 0, none⟩) css.length oc), .int .i64 0, .int .i64 0, .string ⟨#[]⟩, .int .i64 0, .bool false, .bool false, .bool false, .slice none 0 0]) hq (by omega) (by omega)).keep (w2 := (wr.alloc (.cells #[.int .i64 2, .string ⟨#[]⟩, .string ⟨#[]⟩, .int .i64 0, .string ⟨#[]⟩, .bool false, .slice none 0 0, (.slice (some ⟨ob, 0, none⟩) css.length oc), .int .i64 0, .int .i64 0, .string ⟨#[]⟩, .int .i64 0, .bool false, .bool false, .bool false, .slice none 0 0] 33)).alloc (.cells #[.int .i64 1, .string ⟨#[]⟩, .string ⟨#[]⟩, .int .i64 0, .string ⟨#[]⟩, .bool false, .slice none 0 0, .slice (some ⟨wr.heap.size, 0, none⟩) 1 1, .int .i64 0, .int .i64 0, .string ⟨#[]⟩, .int .i64 0, .bool false, .bool false, .bool false, .slice none 0 0] 33)) (fun b _ hb => heap_alloc_old _ _ (by simp; omega))
      have hz2 : wr.heap.size + 2 ≤ ((wr.alloc (.cells #[.int .i64 2, .string ⟨#[]⟩, .string ⟨#[]⟩, .int .i64 0, .string ⟨#[]⟩, .bool false, .slice none 0 0, (.slice (some ⟨ob, 0, none⟩) css.length oc), .int .i64 0, .int .i64 0, .string ⟨#[]⟩, .int .i64 0, .bool false, .bool false, .bool false, .slice none 0 0] 33)).alloc (.cells #[.int .i64 1, .string ⟨#[]⟩, .string ⟨#[]⟩, .int .i64 0, .string ⟨#[]⟩, .bool false, .slice none 0 0, .slice (some ⟨wr.heap.size, 0, none⟩) 1 1, .int .i64 0, .int .i64 0, .string ⟨#[]⟩, .int .i64 0, .bool false, .bool false, .bool false, .slice none 0 0] 33)).heap.size := by simp
      have HBW : Hid (Below w.heap.size w ((wr.alloc (.cells #[.int .i64 2, .string ⟨#[]⟩, .string ⟨#[]⟩, .int .i64 0, .string ⟨#[]⟩, .bool false, .slice none 0 0, (.slice (some ⟨ob, 0, none⟩) css.length oc), .int .i64 0, .int .i64 0, .string ⟨#[]⟩, .int .i64 0, .bool false, .bool false, .bool false, .slice none 0 0] 33)).alloc (.cells #[.int .i64 1, .string ⟨#[]⟩, .string ⟨#[]⟩, .int .i64 0, .string ⟨#[]⟩, .bool false, .slice none 0 0, .slice (some ⟨wr.heap.size, 0, none⟩) 1 1, .int .i64 0, .int .i64 0, .string ⟨#[]⟩, .int .i64 0, .bool false, .bool false, .bool false, .slice none 0 0] 33))) := Lib.hid (((HB5.out.trans (HBL.out.mono HB5.out.size)).alloc (by have := HB5.out.size; omega) _).alloc (by have := HB5.out.size; simp; omega) _)
      have H2 := Lib.hid (impl_HTMLOf Ts css.length lo w4.heap.size _ _ (hrb.keep (w2 := (wr.alloc (.cells #[.int .i64 2, .string ⟨#[]⟩, .string ⟨#[]⟩, .int .i64 0, .string ⟨#[]⟩, .bool false, .slice none 0 0, (.slice (some ⟨ob, 0, none⟩) css.length oc), .int .i64 0, .int .i64 0, .string ⟨#[]⟩, .int .i64 0, .bool false, .bool false, .bool false, .slice none 0 0] 33)).alloc (.cells #[.int .i64 1, .string ⟨#[]⟩, .string ⟨#[]⟩, .int .i64 0, .string ⟨#[]⟩, .bool false, .slice none 0 0, .slice (some ⟨wr.heap.size, 0, none⟩) 1 1, .int .i64 0, .int .i64 0, .string ⟨#[]⟩, .int .i64 0, .bool false, .bool false, .bool false, .slice none 0 0] 33)) (fun b _ hb => hko b (by omega))) (by omega) (by omega))
      have H3 : Hid (∀ w6, Below ((wr.alloc (.cells #[.int .i64 2, .string ⟨#[]⟩, .string ⟨#[]⟩, .int .i64 0, .string ⟨#[]⟩, .bool false, .slice none 0 0, (.slice (some ⟨ob, 0, none⟩) css.length oc), .int .i64 0, .int .i64 0, .string ⟨#[]⟩, .int .i64 0, .bool false, .bool false, .bool false, .slice none 0 0] 33)).alloc (.cells #[.int .i64 1, .string ⟨#[]⟩, .string ⟨#[]⟩, .int .i64 0, .string ⟨#[]⟩, .bool false, .slice none 0 0, .slice (some ⟨wr.heap.size, 0, none⟩) 1 1, .int .i64 0, .int .i64 0, .string ⟨#[]⟩, .int .i64 0, .bool false, .bool false, .bool false, .slice none 0 0] 33)).heap.size ((wr.alloc (.cells #[.int .i64 2, .string ⟨#[]⟩, .string ⟨#[]⟩, .int .i64 0, .string ⟨#[]⟩, .bool false, .slice none 0 0, (.slice (some ⟨ob, 0, none⟩) css.length oc), .int .i64 0, .int .i64 0, .string ⟨#[]⟩, .int .i64 0, .bool false, .bool false, .bool false, .slice none 0 0] 33)).alloc (.cells #[.int .i64 1, .string ⟨#[]⟩, .string ⟨#[]⟩, .int .i64 0, .string ⟨#[]⟩, .bool false, .slice none 0 0, .slice (some ⟨wr.heap.size, 0, none⟩) 1 1, .int .i64 0, .int .i64 0, .string ⟨#[]⟩, .int .i64 0, .bool false, .bool false, .bool false, .slice none 0 0] 33)) w6 → Calls Tryz.prog 7 #[.agg #[.int .i64 1, .string ⟨#[]⟩, .string ⟨#[]⟩, .int .i64 0, .string ⟨#[]⟩, .bool false, .slice none 0 0, .slice (some ⟨wr.heap.size, 0, none⟩) 1 1, .int .i64 0, .int .i64 0, .string ⟨#[]⟩, .int .i64 0, .bool false, .bool false, .bool false, .slice none 0 0]] w6 fun e w' => e = .returned (.string ((⟨#[60, 98, 108, 111, 99, 107, 113, 117, 111, 116, 101, 62, 10]⟩ : ByteArray) ++ S css.length ++ (⟨#[60, 47, 98, 108, 111, 99, 107, 113, 117, 111, 116, 101, 62, 10]⟩ : ByteArray))) ∧ Below w6.heap.size w6 w') := Lib.hid (fun w6 h6 => by
        have hs6 := h6.size
        have := impl_HTMLOf _ 1 lo (wr.heap.size + 1) _ w6 (hrs.keep (fun b _ hb => h6.block b (by omega))) (by omega) (by rw [sum_one]; simp; omega)
        rw [sum_one] at this
        unfold Told at this
        rw [quote_text, hse] at this
        exact this)
      have HONED : Hid ((#[.int .i64 1, .string ⟨#[]⟩, .string ⟨#[]⟩, .int .i64 0, .string ⟨#[]⟩, .bool false, .slice none 0 0, .slice (some ⟨wr.heap.size, 0, none⟩) 1 1, .int .i64 0, .int .i64 0, .string ⟨#[]⟩, .int .i64 0, .bool false, .bool false, .bool false, .slice none 0 0] : Array Value).all (·.oneCell') = true) := Lib.hid (by simp [Value.oneCell'])
      unfold Told at H2
      rw [hse] at H2
      have HW9 := Lib.hid W9
      have HW5 := Lib.hid W5
      have e1 : (⟨#[60, 98, 108, 111, 99, 107, 113, 117, 111, 116, 101, 62, 10]⟩ : ByteArray).size = 13 := rfl
      have e2 : (⟨#[60, 47, 98, 108, 111, 99, 107, 113, 117, 111, 116, 101, 62, 10]⟩ : ByteArray).size = 14 := rfl
      clear hrb hq hrs hko h5w W9 W5 hse
      generalize S css.length = Sn at *
      have hne2 : Sn.toList.isEmpty = false := not_empty hne
      go_wp2_with (first
        | (refine wpList_store_newp rfl 33 16 (wr.heap.size + 1) (by simp) _ _ rfl HI.out _ #[.int .i64 1, .string ⟨#[]⟩, .string ⟨#[]⟩, .int .i64 0, .string ⟨#[]⟩, .bool false, .slice none 0 0, .slice (some ⟨wr.heap.size, 0, none⟩) 1 1, .int .i64 0, .int .i64 0, .string ⟨#[]⟩, .int .i64 0, .bool false, .bool false, .bool false, .slice none 0 0] rfl rfl rfl rfl HONED.out ?_)
        | (refine wpList_load_guard (by rfl) 33 _ rfl w4.heap.size 0 rfl [.int .i64 1, .string ⟨#[]⟩, .string ⟨#[]⟩, .int .i64 0, .string ⟨#[]⟩, .bool false, .slice none 0 0, (.slice (some ⟨ob, 0, none⟩) css.length oc), .int .i64 0, .int .i64 0, .string ⟨#[]⟩, .int .i64 0, .bool false, .bool false, .bool false, .slice none 0 0] _ (range_whole HW5.out) Tryz.underlying33 rfl HI.out ?_)
        | (refine wpList_load_guard (by rfl) 33 _ rfl (wr.heap.size + 1) 0 rfl [.int .i64 1, .string ⟨#[]⟩, .string ⟨#[]⟩, .int .i64 0, .string ⟨#[]⟩, .bool false, .slice none 0 0, .slice (some ⟨wr.heap.size, 0, none⟩) 1 1, .int .i64 0, .int .i64 0, .string ⟨#[]⟩, .int .i64 0, .bool false, .bool false, .bool false, .slice none 0 0] _ (range_whole ((HB6.out.block _ (by omega)).trans HW9.out)) Tryz.underlying33 rfl HI.out ?_)
        | (go_at_call 7; refine (H3.out _ HB6.out).mono ?_; rintro e w7 ⟨rfl, hb7⟩; have HB7 := Lib.hid hb7; clear hb7)
        | (go_at_call 7; refine H2.out.mono ?_; rintro e w6 ⟨rfl, hb6⟩; have HB6 := Lib.hid hb6; clear hb6 H2))
      go_ret
      have g1 := HBW.out.size
      have g2 := HB6.out.size
      exact ⟨rfl, (HBW.out.trans (HB6.out.mono g1)).trans (HB7.out.mono (by omega))⟩
theorem walk_many (n c : Nat) (ao : Option Addr) (w : World) (hn : 300 < n) : Calls Tryz.prog 3 #[.slice ao n c] w fun e w' => e = .returned (.bool true) ∧ Below w.heap.size w w' := by
  have HF := Lib.hid (fun w => few_no ao n c w hn)
  by_cases h : 2147483647 < (n : Int)
  · go_enter Tryz.func3, Tryz.ntmps3
    go_wp2_with (fail)
    go_ret
    exact ⟨rfl, Below.refl _ _⟩
  · go_enter Tryz.func3, Tryz.ntmps3
    go_wp2_with (go_at_call 4; refine (HF.out _).mono ?_; rintro e w1 ⟨rfl, rfl⟩)
    go_ret
    exact ⟨rfl, Below.refl _ _⟩
end Go.Proofs.YtnocllocnoodnaaGreatDoor
