/- The builder's document, and what 'given' makes of it. -/
import Derived.Test.YtnocllocnoodnaaGreatDoorBlocks
import Derived.Test.YtnocllocnoodnaaGreatDoorDoc
namespace Go.Proofs.YtnocllocnoodnaaGreatDoor
open Go.RowKit
set_option linter.unusedSimpArgs false
/-- the node of a document, whose blocks print at most M bytes each -/
def BuiltMade (M : Nat) (w : World) (e : Ending) (w' : World) : Prop := ∃ (tx : ByteArray) (css : List (Array Value)) (ks : Value), e = .returned (.tuple #[.string tx, .agg (spcG 1 ⟨#[]⟩ ⟨#[]⟩ 0 ⟨#[]⟩ false ks 0 0)]) ∧ Nodes (BlkP M) Array.toList w.heap.size css ks w' ∧ 0 < css.length ∧ css.length ≤ 4 ∧ Below w.heap.size w w'
theorem bytes_alloc {b b' n : Nat} {v : Value} {w : World} (h : BytesIn b n v w) (hb : b ≤ b') (hw : b ≤ w.heap.size) (o : Obj) : BytesIn b' n v (w.alloc o) := by
  obtain ⟨ao, c, h1, h2, h3⟩ := h
  refine ⟨ao, c, h1, h2, fun k hk => ?_⟩
  obtain ⟨ad, x, k1, k2, k3, k4⟩ := h3 k hk
  exact ⟨ad, x, k1, k2, by omega, (World.cell?_of_block (a := ad.add k) (heap_alloc_old w o (by rw [add_block]; omega))).trans k4⟩
set_option maxHeartbeats 4000000 in
set_option maxRecDepth 100000 in
theorem laws_built (n N L M c : Nat) (ao : Option Addr) (w : World) (hv : BytesIn w.heap.size n (.slice ao n c) w) (hN : N ≤ 5000) (hL : L ≤ 1000)
    (HB : ∀ (b : Nat) (w : World), Bld b n w → Calls Tryz.prog 8 #[.pointer (some ⟨b, 0, none⟩), .int .i64 3, .int .i64 4] w (BlocksGot b n N L M 4 w)) : Calls Tryz.prog 5 #[.slice ao n c] w (BuiltMade M w) := by
  have HI10 := Lib.hid spc_info
  have hld : Bld (w.heap.size + 1) n ((w.alloc (.cells #[.int .i64 0, .string ⟨#[]⟩, .string ⟨#[]⟩, .int .i64 0, .string ⟨#[]⟩, .bool false, .slice none 0 0, .slice none 0 0, .int .i64 0, .int .i64 0] 27)).alloc (.cells #[.slice ao n c, .int .i64 0, .int .i64 0, .bool false, .int .i64 0] 38)) := by
    refine ⟨_, 0, 0, 0, ?_, Nat.zero_le _, bytes_alloc (bytes_alloc hv (Nat.le_succ _) (Nat.le_refl _) _) (Nat.le_refl _) (by simp) _⟩
    have := heap_alloc_new (w.alloc (.cells #[.int .i64 0, .string ⟨#[]⟩, .string ⟨#[]⟩, .int .i64 0, .string ⟨#[]⟩, .bool false, .slice none 0 0, .slice none 0 0, .int .i64 0, .int .i64 0] 27)) (.cells #[.slice ao n c, .int .i64 0, .int .i64 0, .bool false, .int .i64 0] 38)
    simpa using this
  have HBK := Lib.hid (HB _ _ hld)
  have HJ := Lib.hid (fun n L a c ss bt w hl hrow hss hL hn hb => laws_joined n L a c ss bt w hl hrow hss hL hn hb)
  clear HB hld hv
  unfold BlocksGot at HBK
  unfold SizeTold at HJ
  unfold BuiltMade
  go_enter Tryz.func5, Tryz.ntmps5
  go_wp2_with (first
    | (refine wpList_store_row rfl 27 10 w.heap.size _ _ rfl HI10.out _ #[.int .i64 1, .string ⟨#[]⟩, .string ⟨#[]⟩, .int .i64 0, .string ⟨#[]⟩, .bool false, .slice none 0 0, .slice (some ⟨kb, 0, none⟩) css.length kc, .int .i64 0, .int .i64 0] HR.out rfl rfl rfl rfl HONE.out ?_)
    | (go_at_call 9; refine (HJ.out _ L _ _ ls _ _ hll HRL.out HLS.out (by omega) (by omega) (by decide)).mono ?_; rintro e w3 ⟨r, hr, rfl, rfl⟩)
    | (go_at_call 8; refine HBK.out.mono ?_; rintro e w2 ⟨nt, tv, o, css, rfl, ht, hnt0, hntN, hn, hc0, hc4, hb2, hg2⟩; obtain ⟨gl, cl, ls, rfl, hll, hls, hgl1, hgl2, hrl⟩ := texts_row ht hnt0; obtain ⟨kb, kc, rfl, _, _⟩ := hn.1.form hc0; have HRL := Lib.hid hrl; have HLS := Lib.hid hls; have HNS := Lib.hid hn; have HG := Lib.hid hg2; have HONE : Hid ((#[.int .i64 1, .string ⟨#[]⟩, .string ⟨#[]⟩, .int .i64 0, .string ⟨#[]⟩, .bool false, .slice none 0 0, .slice (some ⟨kb, 0, none⟩) css.length kc, .int .i64 0, .int .i64 0] : Array Value).all (·.oneCell') = true) := Lib.hid (by simp [Value.oneCell']); have hr : w2.heap[w.heap.size]? = some (.cells #[.int .i64 0, .string ⟨#[]⟩, .string ⟨#[]⟩, .int .i64 0, .string ⟨#[]⟩, .bool false, .slice none 0 0, .slice none 0 0, .int .i64 0, .int .i64 0] 27) := (hg2.block _ (by simp; omega) (by simp)).trans ((heap_alloc_old _ _ (by simp)).trans (heap_alloc_new w _)); have HR := Lib.hid hr; clear hr hb2 hg2 hn ht hls hrl HBK))
  try simp only [Act.put, List.setIfInBounds_toArray, List.set_cons_zero, List.set_cons_succ]
  have hl := load_struct (P := Tryz.prog) (ty := 27) (n := 10) (by kernel_rfl) (w2.setRow w.heap.size #[.int .i64 1, .string ⟨#[]⟩, .string ⟨#[]⟩, .int .i64 0, .string ⟨#[]⟩, .bool false, .slice none 0 0, .slice (some ⟨kb, 0, none⟩) css.length kc, .int .i64 0, .int .i64 0]) w.heap.size 27 #[.int .i64 1, .string ⟨#[]⟩, .string ⟨#[]⟩, .int .i64 0, .string ⟨#[]⟩, .bool false, .slice none 0 0, .slice (some ⟨kb, 0, none⟩) css.length kc, .int .i64 0, .int .i64 0] (0, 0) (setRow_heap _ _ _ _ _ _ HR.out) rfl
  have hB : Below w.heap.size w w2 := (((Below.refl _ w).alloc (Nat.le_refl _) _).alloc (by simp) _).grown HG.out (by simp; omega) (fun k hk => by cases hk; omega)
  exact bodyPost_ret (v := .tuple #[.string r, .agg #[.int .i64 1, .string ⟨#[]⟩, .string ⟨#[]⟩, .int .i64 0, .string ⟨#[]⟩, .bool false, .slice none 0 0, .slice (some ⟨kb, 0, none⟩) css.length kc, .int .i64 0, .int .i64 0]]) (by simp [results, asAddr, hl]) rfl ⟨r, css, _, rfl, (HNS.out.keep (blk_say M) (SameAll.setRow (by simp; omega)) (by simp)).low (by simp; omega), hc0, hc4, bel_setRow hB (Nat.le_refl _) _⟩
/-- the slice of nodes that 'given' makes of a document's blocks -/
theorem doc_given {B M : Nat} {css : List (Array Value)} {ks : Value} {w : World} (h : Nodes (BlkP M) Array.toList B css ks w) (h0 : 0 < css.length) (h1 : css.length ≤ 100) : ∃ Ts : Nat → List UInt8, (∀ i, i < css.length → (Ts i).length ≤ M) ∧
    ∀ (fr tl : Int) (w' : World), Same 27 B w.heap.size w w' → w.heap.size ≤ w'.heap.size → Calls Tryz.prog 6 #[.agg (spcG 1 ⟨#[]⟩ ⟨#[]⟩ 0 ⟨#[]⟩ false ks fr tl), .bool false] w' (fun e w2 => ∃ o, e = .returned (.agg (blkG 1 ⟨#[]⟩ ⟨#[]⟩ 0 ⟨#[]⟩ false o ⟨#[]⟩ 0 false)) ∧ RowBuilds (fun _ => false) Ts css.length w'.heap.size w2.heap.size o w2 ∧ Below w'.heap.size w' w2) := by
  obtain ⟨kb, c, rfl, hB, hk, hrow, hg⟩ := row_kids h (blk_say M) h0
  have hg1 : ∀ i : Nat, ∃ (txT : (Bool → Bool) × (Bool → List UInt8)), ∀ (hi : i < css.length), txT.1 false = false ∧ (∀ tg, (txT.2 tg).length ≤ M) ∧ GivesTo (fun tg => BuildsTo (txT.1 tg) (txT.2 tg)) B w.heap.size css[i] w := by
    intro i
    by_cases hi : i < css.length
    · obtain ⟨tx, T, k1, k2, k3⟩ := hg css[i] (List.getElem_mem hi)
      exact ⟨(tx, T), fun _ => ⟨k1, k2, k3⟩⟩
    · exact ⟨(fun _ => false, fun _ => []), fun h => absurd h hi⟩
  obtain ⟨F, hF⟩ := Classical.axiomOfChoice hg1
  refine ⟨fun i => (F i).2 false, fun i hi => (hF i hi).2.1 false, ?_⟩
  intro fr tl w' hs hz
  have hrow' := rowat_same hrow hs hB hk
  have hg' : ∀ i (h : i < css.length), GivesTo (fun tg => BuildsTo ((F i).1 tg) ((F i).2 tg)) B w.heap.size css[i] w' := fun i hi => (gives_say _).keep _ _ _ _ _ (hF i hi).2.2 hs hz
  refine (given_zeroF (fun i tg => BuildsTo ((F i).1 tg) ((F i).2 tg)) (builds_sayable _ _) css kb c B w.heap.size 1 ⟨#[]⟩ ⟨#[]⟩ 0 ⟨#[]⟩ false rfl rfl rfl rfl rfl rfl fr tl w' hrow' (by omega) hz hg').mono ?_
  rintro e w2 ⟨cs2, o, hn, rfl, hm, _, hb⟩
  have hr := turned_builds hn h0 (by omega) hm
  refine ⟨o, rfl, ?_, hb⟩
  obtain ⟨kb2, c2, cs3, j1, j2, j3, j4, j5, j6, j7, j8⟩ := hr
  exact ⟨kb2, c2, cs3, j1, j2, j3, j4, j5, j6, j7, fun i hi => by have := j8 i hi; simp only [(hF i (by omega)).1] at this; exact this⟩
/-- each of them prints something -/
theorem rows_nl {Ts : Nat → List UInt8} {n lo hi : Nat} {s : Value} {w : World} (hr : RowBuilds (fun _ => false) Ts n lo hi s w) (hw : hi ≤ w.heap.size) : ∀ i, i < n → NlT (Ts i) := by
  obtain ⟨e, w', fr, hR, _⟩ := list_row (fun _ => false) Ts n lo hi s w hr hw []
  obtain ⟨o, _, hq, _⟩ := hR
  exact (rowX_row hq).2
/-- one node in a row of its own -/
theorem row_single {T : List UInt8} {lo hi : Nat} {cs : Array Value} {w : World} (h : BuildsTo false T lo hi cs w) (hi2 : hi ≤ w.heap.size) (hlo : lo ≤ w.heap.size) : RowBuilds (fun _ => false) (fun _ => T) 1 lo (w.heap.size + 1) (.slice (some ⟨w.heap.size, 0, none⟩) 1 1) (w.alloc (.cells cs 33)) :=
  ⟨w.heap.size, 1, [cs], rfl, rfl, by omega, by omega, hlo, by omega, ⟨cs, heap_alloc_new w _, by simp [List.take_of_length_le]⟩, fun i hi3 => by
    have : i = 0 := by simpa using hi3
    subst this
    exact (h.keep (fun b _ hb => heap_alloc_old w _ (by omega))).wide (Nat.le_refl _) (by omega)⟩
end Go.Proofs.YtnocllocnoodnaaGreatDoor
