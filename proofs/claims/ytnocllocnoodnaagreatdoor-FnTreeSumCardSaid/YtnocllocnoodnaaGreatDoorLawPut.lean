/- The laws' 'put': a node is put behind others, texts together. -/
import Derived.Test.YtnocllocnoodnaaGreatDoorInl
namespace Go.Proofs.YtnocllocnoodnaaGreatDoor
open Go.RowKit
theorem own_set {w : World} {B g sz n cap : Nat} {e : TypeId} {xs : List Value} (h : w.ownsRow B e sz (.slice (some ⟨g, 0, none⟩) n cap) n xs) (i : Nat) (u : Value) :
    (w.setCell ⟨g, i, none⟩ u).ownsRow B e sz (.slice (some ⟨g, 0, none⟩) n cap) n (xs.set i u) := by
  obtain ⟨h0, h1⟩ := h
  rcases h1 with ⟨h1, _⟩ | ⟨g', cap', cur, h1, h2, h3, h4, h5, h6, h7⟩
  · cases h1
  · obtain ⟨rfl, rfl⟩ : g' = g ∧ cap' = cap := by simpa [eq_comm] using h1
    refine ⟨by simpa using h0, .inr ⟨g', cap', cur.setIfInBounds i u, rfl, h2, heap_setCell_same w g' i cur e u h3, h4, h5, by simpa using h6, ?_⟩⟩
    rw [Array.toList_setIfInBounds, List.take_set, h7]
theorem nodes_flat {css : List (Array Value × Nat)} (h : ∀ c ∈ css, c.1.size = 10) : (css.flatMap inlC).length = css.length * 10 := by
  induction css with
  | nil => rfl
  | cons c r ih =>
    have h1 := h c (by simp)
    have h2 := ih (fun c hc => h c (by simp [hc]))
    simp only [List.flatMap_cons, List.length_append, List.length_cons]
    rw [h2]
    have : (inlC c).length = 10 := by unfold inlC; simpa using h1
    omega
theorem nodes_ten {B : Nat} {css : List (Array Value × Nat)} {o : Value} {w : World} (h : Nodes InlP inlC B css o w) : ∀ c ∈ css, c.1.size = 10 := by
  intro c hc
  obtain ⟨lo, hi, _, _, h3, _⟩ := h.2 c hc
  obtain ⟨k, t, ti, nu, ch, lb, ks, fr, tl, h4, _⟩ := h3.shape
  rw [h4]; rfl
/-- 'put' has put a node behind these -/
def PutIn (B : Nat) (css : List (Array Value × Nat)) (s : Nat) (o : Value) (w : World) (e : Ending) (w' : World) : Prop :=
  ∃ css' o', e = .returned o' ∧ Nodes InlP inlC B css' o' w' ∧ css'.length ≤ css.length + 1 ∧ 0 < css'.length ∧ total css' ≤ total css + s ∧ w.grownBy w' o.ownBlock ∧ (∀ g, o'.ownBlock = some g → o.ownBlock = some g ∨ w.heap.size ≤ g)
theorem spec_info : (Tryz.prog.info? 27).map (fun i => (i.zero, i.size, i.bytes)) = some (some (.agg (spcG 0 ⟨#[]⟩ ⟨#[]⟩ 0 ⟨#[]⟩ false (.slice none 0 0) 0 0)), 10, 136) := by kernel_rfl
/-- what stands behind the append -/
theorem put_added {B : Nat} {css : List (Array Value × Nat)} {o : Value} {x : Array Value × Nat} {lo hi g n' cap : Nat} {w w1 w3 : World} {ob : Obj} {xs' : List Value} (hm : Nodes InlP inlC B css o w) (hx : InlP lo hi x w) (hlo : B ≤ lo) (hhi : hi ≤ w.heap.size) (ho : ∀ g, o.ownBlock = some g → g < lo ∨ hi ≤ g)
    (ha : Below w.heap.size w w1) (hown : w3.ownsRow B 27 10 (.slice (some ⟨g, 0, none⟩) n' cap) n' xs') (hn : n' = css.length + 1) (hxs : xs' = css.flatMap inlC ++ inlC x) (hgrow : (w1.alloc ob).grownBy w3 o.ownBlock) (hat : o.ownBlock = some g ∨ g = w1.heap.size + 1) :
    PutIn B css x.2 o w (.returned (.slice (some ⟨g, 0, none⟩) n' cap)) w3 := by
  have hsa : SameAll 27 B w w1 := fun k _ h => ha.block k h.lt
  have h1 := hm.keep inl_say hsa ha.size
  have h2 := inl_say.keep _ _ _ _ _ hx (hsa.same hi |>.less hlo (Nat.le_refl _)) ha.size
  have h3 := h1.add inl_say h2 hlo (Nat.le_trans hhi ha.size) ho hown hn hxs hgrow hat
  have hs := ha.size
  refine ⟨css ++ [x], _, rfl, h3, by simp, by simp, by rw [total_snoc]; omega, ?_, ?_⟩
  · refine ⟨hgrow.os.trans ha.os, hgrow.tape.trans ha.tape, hgrow.output.trans ha.output, Nat.le_trans ha.size (Nat.le_trans (by simp) hgrow.size), ?_⟩
    intro j hj hne
    rw [hgrow.block j (by simp; omega) hne, heap_alloc_old w1 _ (by omega)]
    exact ha.block j hj
  · intro g' hg'
    have : g' = g := by simpa [Value.ownBlock] using hg'.symm
    subst this
    rcases hat with h | h
    · exact .inl h
    · right; omega
set_option maxHeartbeats 2000000 in
set_option maxRecDepth 100000 in
theorem laws_put_none (B : Nat) (css : List (Array Value × Nat)) (o : Value) (x : Array Value × Nat) (lo hi c : Nat) (ao : Option Addr) (hov : o = .slice ao 0 c) (w : World) (hm : Nodes InlP inlC B css o w) (hx : InlP lo hi x w) (hlo : B ≤ lo) (hhi : hi ≤ w.heap.size) (ho : ∀ g, o.ownBlock = some g → g < lo ∨ hi ≤ g) (hB : B ≤ w.heap.size) (hn : css.length = 0) :
    Calls Tryz.prog 36 #[o, .agg x.1] w (PutIn B css x.2 o w) := by
  obtain ⟨i0, hi0, hz0, hz1, hz2⟩ := info_parts spec_info
  obtain ⟨k, t, ti, nu, ch, lb, ks, fr, tl, hxe, hks⟩ := hx.shape
  have hone := spcG_one k t ti nu ch lb hks fr tl
  obtain ⟨x1, x2⟩ := x
  simp only at hxe
  subst hxe hov
  have HI10 := Lib.hid spc_info
  have HP := Lib.hid (fun w1 w3 ob g n' cap xs' ha hown hn hxs hgrow hat => put_added (w1 := w1) (w3 := w3) (ob := ob) (g := g) (n' := n') (cap := cap) (xs' := xs') hm hx hlo hhi ho ha hown hn hxs hgrow hat)
  have hm0 := hm.1
  rw [hn] at hm0
  have HM := Lib.hid hm0
  have HB1 := Lib.hid ((Below.refl w.heap.size w).alloc (Nat.le_refl _) (.cells (spcG k t ti nu ch lb ks fr tl) 27))
  have HONE := Lib.hid hone
  have HN := Lib.hid hn
  clear hm hx ho hone hn hm0
  unfold spcG at HB1 HONE HP ⊢
  go_enter Tryz.func36, Tryz.ntmps36
  go_wp2_with (first
    | (refine wpList_load_mid rfl 27 _ rfl w.heap.size 0 rfl [.int .i64 k, .string t, .string ti, .int .i64 nu, .string ch, .bool lb, .slice none 0 0, ks, .int .i64 fr, .int .i64 tl] _ (range_whole (heap_alloc_new w _)) Tryz.underlying27 rfl HI10.out ?_)
    | (at_builtin; refine wpList_append_lies _ rfl _ _ 25 rfl B 27 i0 (.agg (spcG 0 ⟨#[]⟩ ⟨#[]⟩ 0 ⟨#[]⟩ false (.slice none 0 0) 0 0)) 10 136 Tryz.underlying25 hi0 hz0 hz1 hz2 rfl (by decide) _ _ _ rfl ((owns_below HM.out HB1.out).alloc _) ⟨w.heap.size + 1, 0, none⟩ 1 1 [.int .i64 k, .string t, .string ti, .int .i64 nu, .string ch, .bool lb, .slice none 0 0, ks, .int .i64 fr, .int .i64 tl] rfl rfl (World.news_of_block (by have := heap_alloc_new (w.alloc (.cells #[.int .i64 k, .string t, .string ti, .int .i64 nu, .string ch, .bool lb, .slice none 0 0, ks, .int .i64 fr, .int .i64 tl] 27)) (.cells #[.int .i64 k, .string t, .string ti, .int .i64 nu, .string ch, .bool lb, .slice none 0 0, ks, .int .i64 fr, .int .i64 tl] 27); simpa using this)) (fun u hu => (Array.all_eq_true_iff_forall_mem.1 HONE.out) u (by simpa using hu)) (by decide) (by unfold maxLen; omega) (by omega) (by simp; omega) (w.heap.size + 1 + 1) (by simp) ?_; intro g2 cap w3 hown hgrow hat hlt3))
  go_ret
  exact HP.out _ _ _ _ _ _ _ HB1.out hown (by rw [HN.out]) (by simp [inlC]) hgrow (Or.imp (fun h => h) (fun h => h.trans (by simp)) hat)
set_option maxHeartbeats 2000000 in
set_option maxRecDepth 100000 in
theorem laws_put_other (B : Nat) (css : List (Array Value × Nat)) (o : Value) (x : Array Value × Nat) (lo hi m c : Nat) (ao : Option Addr) (hov : o = .slice ao (m + 1) c) (w : World) (hm : Nodes InlP inlC B css o w) (hx : InlP lo hi x w) (hlo : B ≤ lo) (hhi : hi ≤ w.heap.size) (ho : ∀ g, o.ownBlock = some g → g < lo ∨ hi ≤ g) (hB : B ≤ w.heap.size) (hn : css.length = (m + 1)) (hm1000 : m ≤ 1000) (k : Int) (t ti : ByteArray) (nu : Int) (ch : ByteArray) (lb : Bool) (ks : Value) (fr tl : Int) (hk20 : (k == 20) = false) (hxe : x.1 = spcG k t ti nu ch lb ks fr tl) (hks : KidsV ks) :
    Calls Tryz.prog 36 #[o, .agg x.1] w (PutIn B css x.2 o w) := by
  obtain ⟨i0, hi0, hz0, hz1, hz2⟩ := info_parts spec_info
  have hi1 : (0 : Int) ≤ (m : Int) := Int.natCast_nonneg m
  have hone := spcG_one k t ti nu ch lb hks fr tl
  obtain ⟨x1, x2⟩ := x
  simp only at hxe
  subst hxe hov
  have HI10 := Lib.hid spc_info
  have HP := Lib.hid (fun w1 w3 ob g n' cap xs' ha hown hn hxs hgrow hat => put_added (w1 := w1) (w3 := w3) (ob := ob) (g := g) (n' := n') (cap := cap) (xs' := xs') hm hx hlo hhi ho ha hown hn hxs hgrow hat)
  have hm0 := hm.1
  rw [hn] at hm0
  have HM := Lib.hid hm0
  have HB1 := Lib.hid ((Below.refl w.heap.size w).alloc (Nat.le_refl _) (.cells (spcG k t ti nu ch lb ks fr tl) 27))
  have HONE := Lib.hid hone
  have HN := Lib.hid hn
  clear hm hx ho hone hn hm0
  unfold spcG at HB1 HONE HP ⊢
  go_enter Tryz.func36, Tryz.ntmps36
  go_wp2_with (first
    | (refine wpList_load_mid rfl 27 _ rfl w.heap.size 0 rfl [.int .i64 k, .string t, .string ti, .int .i64 nu, .string ch, .bool lb, .slice none 0 0, ks, .int .i64 fr, .int .i64 tl] _ (range_whole (heap_alloc_new w _)) Tryz.underlying27 rfl HI10.out ?_)
    | (at_builtin; refine wpList_append_lies _ rfl _ _ 25 rfl B 27 i0 (.agg (spcG 0 ⟨#[]⟩ ⟨#[]⟩ 0 ⟨#[]⟩ false (.slice none 0 0) 0 0)) 10 136 Tryz.underlying25 hi0 hz0 hz1 hz2 rfl (by decide) _ _ _ rfl ((owns_below HM.out HB1.out).alloc _) ⟨w.heap.size + 1, 0, none⟩ 1 1 [.int .i64 k, .string t, .string ti, .int .i64 nu, .string ch, .bool lb, .slice none 0 0, ks, .int .i64 fr, .int .i64 tl] rfl rfl (World.news_of_block (by have := heap_alloc_new (w.alloc (.cells #[.int .i64 k, .string t, .string ti, .int .i64 nu, .string ch, .bool lb, .slice none 0 0, ks, .int .i64 fr, .int .i64 tl] 27)) (.cells #[.int .i64 k, .string t, .string ti, .int .i64 nu, .string ch, .bool lb, .slice none 0 0, ks, .int .i64 fr, .int .i64 tl] 27); simpa using this)) (fun u hu => (Array.all_eq_true_iff_forall_mem.1 HONE.out) u (by simpa using hu)) (by decide) (by unfold maxLen; omega) (by omega) (by simp; omega) (w.heap.size + 1 + 1) (by simp) ?_; intro g2 cap w3 hown hgrow hat hlt3))
  go_ret
  exact HP.out _ _ _ _ _ _ _ HB1.out hown (by rw [HN.out]) (by simp [inlC]) hgrow (Or.imp (fun h => h) (fun h => h.trans (by simp)) hat)
set_option maxHeartbeats 2000000 in
set_option maxRecDepth 100000 in
theorem laws_put_apart (B : Nat) (css : List (Array Value × Nat)) (o : Value) (x : Array Value × Nat) (lo hi m g c : Nat) (hov : o = .slice (some ⟨g, 0, none⟩) (m + 1) c) (w : World) (hm : Nodes InlP inlC B css o w) (hx : InlP lo hi x w) (hlo : B ≤ lo) (hhi : hi ≤ w.heap.size) (ho : ∀ g, o.ownBlock = some g → g < lo ∨ hi ≤ g) (hB : B ≤ w.heap.size) (hn : css.length = (m + 1)) (hm1000 : m ≤ 1000) (ky : Int) (hk20 : (ky == 20) = false) (hy : w.cell? ⟨g, m * 10, none⟩ = some (.int .i64 ky)) (k : Int) (t ti : ByteArray) (nu : Int) (ch : ByteArray) (lb : Bool) (ks : Value) (fr tl : Int) (hk : k = 20) (hxe : x.1 = spcG k t ti nu ch lb ks fr tl) (hks : KidsV ks) (hg : g < w.heap.size) :
    Calls Tryz.prog 36 #[o, .agg x.1] w (PutIn B css x.2 o w) := by
  obtain ⟨i0, hi0, hz0, hz1, hz2⟩ := info_parts spec_info
  have hi1 : (0 : Int) ≤ (m : Int) := Int.natCast_nonneg m
  subst hk
  have d0 : (w.alloc (.cells (spcG 20 t ti nu ch lb ks fr tl) 27)).cell? ⟨g, m * 10, none⟩ = some (.int .i64 ky) := (World.cell?_of_block (heap_alloc_old w _ hg)).trans hy
  have hone := spcG_one 20 t ti nu ch lb hks fr tl
  obtain ⟨x1, x2⟩ := x
  simp only at hxe
  subst hxe hov
  have HI10 := Lib.hid spc_info
  have HP := Lib.hid (fun w1 w3 ob g n' cap xs' ha hown hn hxs hgrow hat => put_added (w1 := w1) (w3 := w3) (ob := ob) (g := g) (n' := n') (cap := cap) (xs' := xs') hm hx hlo hhi ho ha hown hn hxs hgrow hat)
  have hm0 := hm.1
  rw [hn] at hm0
  have HM := Lib.hid hm0
  have HB1 := Lib.hid ((Below.refl w.heap.size w).alloc (Nat.le_refl _) (.cells (spcG 20 t ti nu ch lb ks fr tl) 27))
  have HONE := Lib.hid hone
  have HN := Lib.hid hn
  clear hm hx ho hone hn hm0
  unfold spcG at HB1 HONE HP d0 ⊢
  go_enter Tryz.func36, Tryz.ntmps36
  go_wp2_with (first
    | (refine wpList_load_mid rfl 27 _ rfl w.heap.size 0 rfl [.int .i64 20, .string t, .string ti, .int .i64 nu, .string ch, .bool lb, .slice none 0 0, ks, .int .i64 fr, .int .i64 tl] _ (range_whole (heap_alloc_new w _)) Tryz.underlying27 rfl HI10.out ?_)
    | (at_builtin; refine wpList_append_lies _ rfl _ _ 25 rfl B 27 i0 (.agg (spcG 0 ⟨#[]⟩ ⟨#[]⟩ 0 ⟨#[]⟩ false (.slice none 0 0) 0 0)) 10 136 Tryz.underlying25 hi0 hz0 hz1 hz2 rfl (by decide) _ _ _ rfl ((owns_below HM.out HB1.out).alloc _) ⟨w.heap.size + 1, 0, none⟩ 1 1 [.int .i64 20, .string t, .string ti, .int .i64 nu, .string ch, .bool lb, .slice none 0 0, ks, .int .i64 fr, .int .i64 tl] rfl rfl (World.news_of_block (by have := heap_alloc_new (w.alloc (.cells #[.int .i64 20, .string t, .string ti, .int .i64 nu, .string ch, .bool lb, .slice none 0 0, ks, .int .i64 fr, .int .i64 tl] 27)) (.cells #[.int .i64 20, .string t, .string ti, .int .i64 nu, .string ch, .bool lb, .slice none 0 0, ks, .int .i64 fr, .int .i64 tl] 27); simpa using this)) (fun u hu => (Array.all_eq_true_iff_forall_mem.1 HONE.out) u (by simpa using hu)) (by decide) (by unfold maxLen; omega) (by omega) (by simp; omega) (w.heap.size + 1 + 1) (by simp) ?_; intro g2 cap w3 hown hgrow hat hlt3))
  go_ret
  exact HP.out _ _ _ _ _ _ _ HB1.out hown (by rw [HN.out]) (by simp [inlC]) hgrow (Or.imp (fun h => h) (fun h => h.trans (by simp)) hat)
set_option maxHeartbeats 2000000 in
set_option maxRecDepth 100000 in
theorem laws_put_join (t ty : ByteArray) (m g c : Nat) (w : World) (hg : g < w.heap.size) (hy : w.cell? ⟨g, m * 10, none⟩ = some (.int .i64 20)) (hy1 : w.cell? ⟨g, m * 10 + 1, none⟩ = some (.string ty)) (hyf : w.frozen? ⟨g, m * 10 + 1, none⟩ = false) (hsz : ty.size + t.size ≤ 100000) (hm1000 : m ≤ 1000) :
    Calls Tryz.prog 36 #[.slice (some ⟨g, 0, none⟩) (m + 1) c, .agg (plainC t)] w fun e w' => e = .returned (.slice (some ⟨g, 0, none⟩) (m + 1) c) ∧ w' = ((w.setCell ⟨g, m * 10 + 1, none⟩ (.string (ty ++ t))).alloc (.cells (plainC t) 27)).drew := by
  have hi1 : (0 : Int) ≤ (m : Int) := Int.natCast_nonneg m
  have ho := heap_alloc_old w (.cells (plainC t) 27) hg
  have d0 : (w.alloc (.cells (plainC t) 27)).cell? ⟨g, m * 10, none⟩ = some (.int .i64 20) := (World.cell?_of_block ho).trans hy
  have d1 : (w.alloc (.cells (plainC t) 27)).drew.cell? ⟨g, m * 10 + 1, none⟩ = some (.string ty) := (World.cell?_of_block ho).trans hy1
  have f1 : (w.alloc (.cells (plainC t) 27)).drew.frozen? ⟨g, m * 10 + 1, none⟩ = false := (World.frozen?_of_block ho).trans hyf
  have n1 : (w.alloc (.cells (plainC t) 27)).drew.cell? ⟨w.heap.size, 1, none⟩ = some (.string t) := Lib.cell_of_heap (heap_alloc_new w _) 1
  clear ho hy hy1 hyf
  unfold plainC spcG at *
  go_enter Tryz.func36, Tryz.ntmps36
  go_wp2_with (fail)
  go_region
  all_goals go_wp2_with (fail)
  all_goals go_ret
  all_goals exact ⟨rfl, rfl⟩
theorem set_last (A : List Value) (a0 a1 v : Value) (R : List Value) : (A ++ a0 :: a1 :: R).set (A.length + 1) v = A ++ a0 :: v :: R := by
  rw [List.set_append_right _ _ (by omega)]
  simp
theorem total_join (l : List (Array Value × Nat)) (x y : Array Value × Nat) (z : Nat) : total (l ++ [(x.1, y.2 + z)]) = total (l ++ [y]) + z := by simp [total]; omega
theorem put_joined {B m g c s : Nat} {init : List (Array Value × Nat)} {z : Nat} {t ty : ByteArray} {w : World} (hm : Nodes InlP inlC B (init ++ [(plainC ty, z)]) (.slice (some ⟨g, 0, none⟩) (m + 1) c) w) (hl : init.length = m) (hty : ty.size ≤ z) (ht : t.size ≤ s) :
    PutIn B (init ++ [(plainC ty, z)]) s (.slice (some ⟨g, 0, none⟩) (m + 1) c) w (.returned (.slice (some ⟨g, 0, none⟩) (m + 1) c)) ((w.setCell ⟨g, m * 10 + 1, none⟩ (.string (ty ++ t))).alloc (.cells (plainC t) 27)).drew := by
  generalize hW : w.setCell ⟨g, m * 10 + 1, none⟩ (.string (ty ++ t)) = W
  have hsz : W.heap.size = w.heap.size := by rw [← hW]; simp
  have hoth : ∀ b, b ≠ g → W.heap[b]? = w.heap[b]? := fun b hb => by rw [← hW]; exact heap_setCell_other w ⟨g, m * 10 + 1, none⟩ b _ hb
  have h10 := nodes_ten hm
  have hlen : (init.flatMap inlC).length = m * 10 := by rw [nodes_flat (fun c hc => h10 c (by simp [hc])), hl]
  have hown := hm.1
  have hgB : B ≤ g ∧ g < w.heap.size := hm.1.lt g rfl
  simp only [List.length_append, List.length_cons, List.length_nil, Nat.zero_add, hl] at hown
  have h2 := own_set hown (m * 10 + 1) (.string (ty ++ t))
  have h3 : (((init ++ [(plainC ty, z)]).flatMap inlC).set (m * 10 + 1) (.string (ty ++ t))) = (init ++ [(plainC (ty ++ t), z + s)]).flatMap inlC := by
    rw [List.flatMap_append, List.flatMap_append, ← hlen]
    simp only [List.flatMap_cons, List.flatMap_nil, List.append_nil]
    exact set_last _ _ _ _ _
  rw [h3, hW] at h2
  have h4 := owns_below h2 ((Below.refl _ W).alloc (Nat.le_refl _) (.cells (plainC t) 27))
  clear h2 h3 hown
  refine ⟨init ++ [(plainC (ty ++ t), z + s)], _, rfl, ⟨?_, ?_⟩, by simp, by simp, by simp [total]; omega, ?_, fun g' h => .inl h⟩
  · simp only [List.length_append, List.length_cons, List.length_nil, Nat.zero_add, hl]
    exact h4
  · intro d hd
    rcases List.mem_append.1 hd with h | h
    · obtain ⟨lo, hi, k1, k2, k3, k4⟩ := hm.2 d (by simp [h])
      refine ⟨lo, hi, k1, by show _ ≤ (World.alloc _ _).heap.size; simp; omega, ?_, k4⟩
      refine inl_say.keep _ _ _ _ _ k3 ?_ (by show _ ≤ (World.alloc _ _).heap.size; simp; omega)
      intro b hb1 hb2 _
      have hne : b ≠ g := by rcases k4 g rfl with h | h <;> omega
      exact (heap_alloc_old W _ (by omega)).trans (hoth b hne)
    · rw [List.mem_singleton] at h
      subst h
      exact ⟨B, B, Nat.le_refl _, by show _ ≤ (World.alloc _ _).heap.size; simp; omega, .inl ⟨ty ++ t, by rw [ByteArray.size_append]; simp only; omega, rfl⟩, fun g' h => by cases h; exact .inr hgB.1⟩
  · refine ⟨by rw [← hW]; rfl, by rw [← hW]; rfl, by rw [← hW]; rfl, by show _ ≤ (World.alloc _ _).heap.size; simp; omega, ?_⟩
    intro j hj hne
    exact (heap_alloc_old W _ (by omega)).trans (hoth j (fun h => hne (by rw [h]; rfl)))
theorem laws_put (B : Nat) (css : List (Array Value × Nat)) (o : Value) (x : Array Value × Nat) (lo hi : Nat) (w : World) (hm : Nodes InlP inlC B css o w) (hx : InlP lo hi x w) (hlo : B ≤ lo) (hhi : hi ≤ w.heap.size) (ho : ∀ g, o.ownBlock = some g → g < lo ∨ hi ≤ g) (hB : B ≤ w.heap.size) (hn : css.length ≤ 1000) (ht : total css + x.2 ≤ 50000) :
    Calls Tryz.prog 36 #[o, .agg x.1] w (PutIn B css x.2 o w) := by
  rcases List.eq_nil_or_concat css with rfl | ⟨init, y, rfl⟩
  · have : ∃ ao c, o = .slice ao 0 c := by
      rcases hm.1.2 with ⟨rfl, _⟩ | ⟨g, cap, cur, rfl, _⟩
      · exact ⟨_, _, rfl⟩
      · exact ⟨_, _, rfl⟩
    obtain ⟨ao, c, ho'⟩ := this
    exact laws_put_none B [] o x lo hi c ao ho' w hm hx hlo hhi ho hB rfl
  · rw [List.concat_eq_append] at *
    obtain ⟨g, c, ho', hgB, hgl⟩ := hm.1.form (by simp)
    simp only [List.length_append, List.length_cons, List.length_nil, Nat.zero_add] at ho' hn
    rcases hx with ⟨t, h1, h2⟩ | ⟨k, t, ti, nu, ch, lb, ks, fr, tl, h1, h2, h3, h4⟩
    · have h10 := nodes_ten hm
      have hlen : (init.flatMap inlC).length = init.length * 10 := nodes_flat (fun c hc => h10 c (by simp [hc]))
      obtain ⟨ly, hy, k1, k2, k3, k4⟩ := hm.2 y (by simp)
      have hrow : RowAt 27 g ((init ++ [y]).flatMap inlC) w := by
        obtain ⟨g', cap', h5, _, _, h6⟩ := owns_rowQ hm.1 (by simp)
        rw [ho'] at h5
        simp at h5
        rw [h5.1]; exact h6
      have hcell : ∀ j (v : Value), (inlC y)[j]? = some v → w.cell? ⟨g, init.length * 10 + j, none⟩ = some v := by
        intro j v hv
        have e1 : ((init ++ [y]).flatMap inlC)[init.length * 10 + j]? = some v := by
          rw [List.flatMap_append, List.getElem?_append_right (by omega), hlen, Nat.add_sub_cancel_left]
          simpa using hv
        obtain ⟨hlt, he⟩ := List.getElem?_eq_some_iff.1 e1
        rw [hrow.cell _ hlt]
        exact congrArg some he
      have hz := total_mem (l := init ++ [y]) (x := y) (by simp)
      rcases k3 with ⟨ty, g1, g2⟩ | ⟨ky, ty, ti, nu, ch, lb, ks, fr, tl, g1, g2, g3, g4⟩
      · have hfz : w.frozen? ⟨g, init.length * 10 + 1, none⟩ = false := by
          obtain ⟨cur, hc, _⟩ := hrow
          exact Lib.frozen_of_heap hc _
        obtain ⟨y1, y2⟩ := y
        simp only at g1 g2 hz
        subst g2 ho'
        rw [h2]
        refine (laws_put_join t ty init.length g c w hgl (hcell 0 _ rfl) (hcell 1 _ rfl) hfz (by omega) (by omega)).mono ?_
        rintro e w' ⟨rfl, rfl⟩
        exact put_joined hm rfl g1 h1
      · refine laws_put_apart B _ o x lo hi init.length g c ho' w hm (.inl ⟨t, h1, h2⟩) hlo hhi ho hB (by simp) (by omega) ky g1 (hcell 0 _ (by unfold inlC; rw [g2]; rfl)) 20 t _ _ _ _ _ _ _ rfl h2 (.inl rfl) hgl
    · exact laws_put_other B _ o x lo hi init.length c (some ⟨g, 0, none⟩) ho' w hm (.inr ⟨k, t, ti, nu, ch, lb, ks, fr, tl, h1, h2, h3, h4⟩) hlo hhi ho hB (by simp) (by omega) k t ti nu ch lb ks fr tl h1 h2 h3
end Go.Proofs.YtnocllocnoodnaaGreatDoor
