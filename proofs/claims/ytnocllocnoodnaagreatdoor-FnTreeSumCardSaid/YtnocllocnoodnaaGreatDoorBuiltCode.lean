/- 'built' at blocks of code, whose text is cut to lines; the builder's code as a block. -/
import Derived.Test.YtnocllocnoodnaaGreatDoorGivesBlk
import Derived.Test.YtnocllocnoodnaaGreatDoorCut
import Derived.Test.YtnocllocnoodnaaGreatDoorCodeOf
namespace Go.Proofs.YtnocllocnoodnaaGreatDoor
open Go.RowKit
set_option linter.unusedSimpArgs false
theorem sizes_mem {x : ByteArray} : ∀ {l : List ByteArray}, x ∈ l → x.size ≤ sizes l
  | y :: l, h => by
    have : sizes (y :: l) = y.size + sizes l := by simp [sizes]
    rcases List.mem_cons.1 h with rfl | h
    · omega
    · have := sizes_mem h
      omega
theorem sizes_cons (x : ByteArray) (l : List ByteArray) : sizes (x :: l) = x.size + sizes l := by simp [sizes]
theorem linesF_len : ∀ (n : Nat) (s : ByteArray), (linesF n s).length ≤ s.size ∧ sizes (linesF n s) ≤ s.size
  | 0, s => by simp [linesF, sizes]
  | n + 1, s => by
    unfold linesF
    split
    · simp [sizes]
    · split
      · have hb := index_bounds s.data.toList 10
        rw [Array.length_toList] at hb
        have hz : s.data.size = s.size := rfl
        rw [hz] at hb
        generalize Lib.indexByte s.data.toList 10 = i at *
        have ih := linesF_len n (s.extract (i.toNat + 1) s.size)
        have x1 : (s.extract 0 (i.toNat + 1)).size = i.toNat + 1 := by rw [ByteArray.size_extract]; omega
        have x2 : (s.extract (i.toNat + 1) s.size).size = s.size - (i.toNat + 1) := by rw [ByteArray.size_extract]; omega
        rw [sizes_cons, List.length_cons]
        omega
      · rw [sizes_cons]
        simp [sizes]
        omega
theorem trim_len (x : ByteArray) : (trimNl x).size ≤ x.size := by
  show (Lib.trimSuffix x.data.toList _).toArray.size ≤ x.data.size
  unfold Lib.trimSuffix
  split <;> simp
theorem cutL_len (s : ByteArray) : (cutL s).length ≤ s.size ∧ sizes (cutL s) ≤ s.size := by
  have h := linesF_len s.size s
  have h2 : ∀ l : List ByteArray, sizes (l.map trimNl) ≤ sizes l := by
    intro l
    induction l with
    | nil => simp [sizes]
    | cons x l ih =>
      have := trim_len x
      rw [List.map_cons, sizes_cons, sizes_cons]
      omega
  have h3 := h2 (linesF s.size s)
  unfold cutL
  rw [List.length_map]
  omega
theorem lineH_len (ss : List ByteArray) (i : Nat) (hi : i < ss.length) : (lineH ss i).length ≤ 6 * ss[i].size + 1 := by
  unfold lineH
  have h := escK_len ss[i]
  simp only [List.getD_eq_getElem?_getD, List.getElem?_eq_getElem hi, Option.getD_some, List.length_append, List.length_cons, List.length_nil]
  omega
theorem lines_len (ss : List ByteArray) : ∀ n, n ≤ ss.length → (sumT (lineH ss) n).length ≤ 6 * sizes (ss.take n) + n
  | 0, _ => by simp [sumT]
  | n + 1, hn => by
    have h1 := lines_len ss n (by omega)
    have h2 := lineH_len ss n (by omega)
    have h3 : sizes (ss.take (n + 1)) = sizes (ss.take n) + ss[n].size := by rw [List.take_succ_eq_append_getElem (by omega), sizes_snoc]
    simp only [sumT, List.length_append]
    omega
theorem fence_len (info : ByteArray) (ss : List ByteArray) (h1 : info.size ≤ 10) (h2 : ss.length ≤ 100) (h3 : sizes ss ≤ 100) : (fenceH info ss).length ≤ 3000 := by
  have h4 := lines_len ss ss.length (Nat.le_refl _)
  rw [List.take_length] at h4
  have h5 := escK_len info
  have h6 : (infoH info).length ≤ 100 := by
    unfold infoH
    split
    · simp
    · simp only [List.length_append, List.length_cons, List.length_nil]
      omega
  unfold fenceH
  simp only [List.length_append, List.length_cons, List.length_nil]
  omega
theorem fence_nl (info : ByteArray) (ss : List ByteArray) : NlT (fenceH info ss) := nlT_app _ (nlT_app _ (nlT_app _ (show NlT [60, 47, 99, 111, 100, 101, 62, 60, 47, 112, 114, 101, 62, 10] from rfl)))
set_option maxHeartbeats 8000000 in
set_option maxRecDepth 100000 in
theorem built_code (s info : ByteArray) (hs0 : 0 < s.size) (hs : s.size ≤ 100) (hinf : Letters info) (hin : info.size ≤ 10) (lo hi : Nat) (w : World) : BuildsTo false (fenceH info (cutL s)) lo hi (blkG 7 s info 0 ⟨#[]⟩ false (.slice none 0 0) ⟨#[96, 96, 96]⟩ 0 false) w := by
  refine ⟨rfl, by simp [blkG, Value.oneCell'], ?_⟩
  intro w' hag hhw
  have H := Lib.hid (fun w1 => impl_cut s (by omega) w1)
  clear hag hhw
  unfold CutMade at H
  unfold BuildX
  unfold blkG at *
  obtain ⟨hz0, hz1⟩ := two_allocs w' (Obj.cells #[.int .i64 7, .string s, .string info, .int .i64 0, .string ⟨#[]⟩, .bool false, .slice none 0 0, .slice none 0 0, .int .i64 0, .int .i64 0, .string ⟨#[96, 96, 96]⟩, .int .i64 0, .bool false, .bool false, .bool false, .slice none 0 0] 33) (Obj.cells #[.int .i64 0, .int .i64 0] 58)
  have d1 : ((w'.alloc (Obj.cells #[.int .i64 7, .string s, .string info, .int .i64 0, .string ⟨#[]⟩, .bool false, .slice none 0 0, .slice none 0 0, .int .i64 0, .int .i64 0, .string ⟨#[96, 96, 96]⟩, .int .i64 0, .bool false, .bool false, .bool false, .slice none 0 0] 33)).alloc (Obj.cells #[.int .i64 0, .int .i64 0] 58)).cell? ⟨w'.heap.size, 1, none⟩ = some (.string s) := by rw [Lib.cell_of_heap hz0]; rfl
  have d2 : ((w'.alloc (Obj.cells #[.int .i64 7, .string s, .string info, .int .i64 0, .string ⟨#[]⟩, .bool false, .slice none 0 0, .slice none 0 0, .int .i64 0, .int .i64 0, .string ⟨#[96, 96, 96]⟩, .int .i64 0, .bool false, .bool false, .bool false, .slice none 0 0] 33)).alloc (Obj.cells #[.int .i64 0, .int .i64 0] 58)).cell? ⟨w'.heap.size, 2, none⟩ = some (.string info) := by rw [Lib.cell_of_heap hz0]; rfl
  have d10 : ((w'.alloc (Obj.cells #[.int .i64 7, .string s, .string info, .int .i64 0, .string ⟨#[]⟩, .bool false, .slice none 0 0, .slice none 0 0, .int .i64 0, .int .i64 0, .string ⟨#[96, 96, 96]⟩, .int .i64 0, .bool false, .bool false, .bool false, .slice none 0 0] 33)).alloc (Obj.cells #[.int .i64 0, .int .i64 0] 58)).cell? ⟨w'.heap.size, 10, none⟩ = some (.string ⟨#[96, 96, 96]⟩) := by rw [Lib.cell_of_heap hz0]; rfl
  have p0 : ((w'.alloc (Obj.cells #[.int .i64 7, .string s, .string info, .int .i64 0, .string ⟨#[]⟩, .bool false, .slice none 0 0, .slice none 0 0, .int .i64 0, .int .i64 0, .string ⟨#[96, 96, 96]⟩, .int .i64 0, .bool false, .bool false, .bool false, .slice none 0 0] 33)).alloc (Obj.cells #[.int .i64 0, .int .i64 0] 58)).cell? ⟨w'.heap.size + 1, 0, none⟩ = some (.int .i64 0) := by rw [Lib.cell_of_heap hz1]; rfl
  have p1 : ((w'.alloc (Obj.cells #[.int .i64 7, .string s, .string info, .int .i64 0, .string ⟨#[]⟩, .bool false, .slice none 0 0, .slice none 0 0, .int .i64 0, .int .i64 0, .string ⟨#[96, 96, 96]⟩, .int .i64 0, .bool false, .bool false, .bool false, .slice none 0 0] 33)).alloc (Obj.cells #[.int .i64 0, .int .i64 0] 58)).cell? ⟨w'.heap.size + 1, 1, none⟩ = some (.int .i64 0) := by rw [Lib.cell_of_heap hz1]; rfl
  have bd1 : ((w'.alloc (Obj.cells #[.int .i64 7, .string s, .string info, .int .i64 0, .string ⟨#[]⟩, .bool false, .slice none 0 0, .slice none 0 0, .int .i64 0, .int .i64 0, .string ⟨#[96, 96, 96]⟩, .int .i64 0, .bool false, .bool false, .bool false, .slice none 0 0] 33)).alloc (Obj.cells #[.int .i64 0, .int .i64 0] 58)).drew.cell? ⟨w'.heap.size, 1, none⟩ = _ := d1
  have bd2 : ((w'.alloc (Obj.cells #[.int .i64 7, .string s, .string info, .int .i64 0, .string ⟨#[]⟩, .bool false, .slice none 0 0, .slice none 0 0, .int .i64 0, .int .i64 0, .string ⟨#[96, 96, 96]⟩, .int .i64 0, .bool false, .bool false, .bool false, .slice none 0 0] 33)).alloc (Obj.cells #[.int .i64 0, .int .i64 0] 58)).drew.cell? ⟨w'.heap.size, 2, none⟩ = _ := d2
  have bd10 : ((w'.alloc (Obj.cells #[.int .i64 7, .string s, .string info, .int .i64 0, .string ⟨#[]⟩, .bool false, .slice none 0 0, .slice none 0 0, .int .i64 0, .int .i64 0, .string ⟨#[96, 96, 96]⟩, .int .i64 0, .bool false, .bool false, .bool false, .slice none 0 0] 33)).alloc (Obj.cells #[.int .i64 0, .int .i64 0] 58)).drew.cell? ⟨w'.heap.size, 10, none⟩ = _ := d10
  have bp0 : ((w'.alloc (Obj.cells #[.int .i64 7, .string s, .string info, .int .i64 0, .string ⟨#[]⟩, .bool false, .slice none 0 0, .slice none 0 0, .int .i64 0, .int .i64 0, .string ⟨#[96, 96, 96]⟩, .int .i64 0, .bool false, .bool false, .bool false, .slice none 0 0] 33)).alloc (Obj.cells #[.int .i64 0, .int .i64 0] 58)).drew.cell? ⟨w'.heap.size + 1, 0, none⟩ = _ := p0
  have bp1 : ((w'.alloc (Obj.cells #[.int .i64 7, .string s, .string info, .int .i64 0, .string ⟨#[]⟩, .bool false, .slice none 0 0, .slice none 0 0, .int .i64 0, .int .i64 0, .string ⟨#[96, 96, 96]⟩, .int .i64 0, .bool false, .bool false, .bool false, .slice none 0 0] 33)).alloc (Obj.cells #[.int .i64 0, .int .i64 0] 58)).drew.cell? ⟨w'.heap.size + 1, 1, none⟩ = _ := p1
  clear hz0 hz1
  go_enter Tryz.func11, Tryz.ntmps11
  go_wp2_with (fail)
  go_region_held3 (fun w3 => w3.cell? ⟨w'.heap.size, 1, none⟩ = some (.string s) ∧ w3.cell? ⟨w'.heap.size, 2, none⟩ = some (.string info) ∧ w3.cell? ⟨w'.heap.size, 10, none⟩ = some (.string ⟨#[96, 96, 96]⟩) ∧ w3.cell? ⟨w'.heap.size + 1, 0, none⟩ = some (.int .i64 0) ∧ w3.cell? ⟨w'.heap.size + 1, 1, none⟩ = some (.int .i64 0)) (first | with_reducible exact ⟨d1, d2, d10, p0, p1⟩ | with_reducible exact ⟨bd1, bd2, bd10, bp0, bp1⟩ | with_reducible exact ⟨fd1, fd2, fd10, fp0, fp1⟩ | go_keep)
    (first | (go_at_call 20; refine (H.out _).mono ?_; rintro e w2 ⟨o, rfl, hn1, hn2, hn3, hown, hb2⟩; have hlt : w'.heap.size + 1 < ((w'.alloc (Obj.cells #[.int .i64 7, .string s, .string info, .int .i64 0, .string ⟨#[]⟩, .bool false, .slice none 0 0, .slice none 0 0, .int .i64 0, .int .i64 0, .string ⟨#[96, 96, 96]⟩, .int .i64 0, .bool false, .bool false, .bool false, .slice none 0 0] 33)).alloc (Obj.cells #[.int .i64 0, .int .i64 0] 58)).drew.heap.size := (by show _ < ((w'.alloc _).alloc _).heap.size; simp); have fd1 := (hb2.cell (p := ⟨w'.heap.size, 1, none⟩) (Nat.lt_of_succ_lt hlt)).trans d1; have fd2 := (hb2.cell (p := ⟨w'.heap.size, 2, none⟩) (Nat.lt_of_succ_lt hlt)).trans d2; have fd10 := (hb2.cell (p := ⟨w'.heap.size, 10, none⟩) (Nat.lt_of_succ_lt hlt)).trans d10; have fp0 := (hb2.cell (p := ⟨w'.heap.size + 1, 0, none⟩) (hlt)).trans p0; have fp1 := (hb2.cell (p := ⟨w'.heap.size + 1, 1, none⟩) (hlt)).trans p1; have HQ := Lib.hid hown; have HB := Lib.hid hb2; obtain ⟨oa, oc, rfl, ho1, ho2, hor⟩ := owns_rowP hown (hn3 hs0); have HOR := Lib.hid hor; clear hb2 hown hor))
  all_goals go_wp2
  clear d1 d2 d10 p0 p1 bd1 bd2 bd10 bp0 bp1 fd1 fd2 fd10 fp0 fp1 hlt
  have hs2 := HB.out.size
  have hs3 : w'.heap.size + 1 + 1 ≤ w2.heap.size := by have : ((w'.alloc _).alloc _).heap.size ≤ w2.heap.size := hs2; simpa using this
  have hB2 : Below w'.heap.size w' w2 := (((Below.refl _ _).alloc (Nat.le_refl _) _).alloc (by simp) _).drew.trans (HB.out.mono (by show _ ≤ ((w'.alloc _).alloc _).heap.size; simp; omega))
  have ho3 : w'.heap.size + 1 + 1 ≤ oa := by have : ((w'.alloc _).alloc _).heap.size ≤ oa := ho1; simpa using this
  clear HQ HB hs2 ho1
  refine bodyPost_ret (v := .iface 82 (.pointer (some ⟨w2.heap.size, 0, none⟩))) (by simp [results, go_sem]) rfl ⟨_, ⟨_, _, rfl⟩, printsX_of (by decide) (CodeBlock_prints (CodeBlock_by info ⟨#[96, 96, 96]⟩ (cutL s) w'.heap.size _ w2.heap.size oa oc (.int .i64 0) (.int .i64 0) _ (heap_alloc_new w2 _) (by omega) (by simp) (by omega) (by simp; omega) (HOR.out.of (heap_alloc_old w2 _ ho2)) (fun x hx => by have := sizes_mem hx; omega) (by omega) (not_empty (fun h => absurd (congrArg ByteArray.size h) (by decide))) hinf (by omega))) (fence_nl _ _), rfl, hB2.alloc (by omega) _⟩
theorem blk_code (s ti : ByteArray) (lo hi : Nat) (w : World) (hs : 0 < s.size ∧ s.size ≤ 100) (hti : Letters ti) (hti2 : ti.size ≤ 10) : BlkP 3000 lo hi (spcG 7 s ti 0 ⟨#[]⟩ false (.slice none 0 0) 0 0) w := by
  refine ⟨fun _ => false, fun _ => fenceH ti (cutL s), rfl, fun _ => fence_len ti _ hti2 (Nat.le_trans (cutL_len s).1 hs.2) (Nat.le_trans (cutL_len s).2 hs.2), _, _, _, _, _, _, _, _, _, rfl, .inl rfl, ?_⟩
  intro fr tl tg w' _ _ _
  have key : ∀ e w2, (e = .returned (.agg (blkG 7 s ti 0 ⟨#[]⟩ false (.slice none 0 0) ⟨#[96, 96, 96]⟩ 0 false)) ∧ Below w'.heap.size w' w2) → GivenX (BuildsTo false (fenceH ti (cutL s))) w' e w2 := by
    rintro e w2 ⟨rfl, hb⟩
    have hp := built_code s ti hs.1 hs.2 hti hti2 w'.heap.size w2.heap.size w2
    exact ⟨_, rfl, hp.1, hp.2.1, hp, hb⟩
  cases tg
  · exact (given_codeF s ti fr tl w').mono key
  · exact (given_codeT s ti fr tl w').mono key
end Go.Proofs.YtnocllocnoodnaaGreatDoor
