/- FnTreeSum: the given card, out of its walk (after the kit's worked tied card). -/
import Derived.Test.YtnocllocnoodnaaGreatDoorFnTreeSum
import Derived.Test.YtnocllocnoodnaaGreatDoorRows
import Derived.Test.YtnocllocnoodnaaGreatDoorCards
import Derived.Test.YtnocllocnoodnaaGreatDoorTie
import Derived.WalkKit
import Derived.ProofKit
import Derived.OpenShut
import Derived.ShutString
import Derived.ChangeOld
import Derived.Below
import Derived.LaidMore
import Derived.Lay
import Derived.Stop.Joined
import Derived.SevenTiedAt
namespace Go.Proofs.YtnocllocnoodnaaGreatDoor.pFnTreeSum
open Go.ChangeShapes Go.WideShapes Go.ChangeAt Go.RowKit
set_option linter.unusedVariables false

abbrev laidTable : List (String × DataW Unit) := [("unicode/utf8.acceptRanges", Rows.laid_unicode_utf8_acceptRanges), ("unicode/utf8.first", Rows.laid_unicode_utf8_first)]
theorem own : ownKnob Tryz.prog.godebug = none := by kernel_rfl
theorem bytes_in {W : World} {a : Addr} {len cap : Nat} {xs : List Int} (hl : len ≤ xs.length) (hc : ∀ i, i < xs.length → W.cell? (a.add i) = some (.int .u8 (xs.getD i 0))) (hw : ∀ n ∈ xs, (Lit.int .u8 n).wf = true) (h : len ≤ 300) : BytesIn W.heap.size len (.slice (some a) len cap) W := by
  refine ⟨some a, cap, rfl, h, fun k hk => ?_⟩
  have hx : xs.getD k 0 = xs[k]'(by omega) := by simp [List.getD, show k < xs.length by omega]
  have hb := Go.bounds_u8 (hw _ (List.getElem_mem (show k < xs.length by omega)))
  have hcell := hc k (by omega)
  rw [hx] at hcell
  refine ⟨a, (xs[k]'(by omega)).toNat, rfl, by omega, ?_, ?_⟩
  · rcases Nat.lt_or_ge (a.add k).block W.heap.size with h1 | h1
    · rw [block_add] at h1; exact h1
    · simp [World.cell?, Array.getElem?_eq_none h1] at hcell
  · rw [hcell, Int.toNat_of_nonneg hb.1]
set_option maxRecDepth 100000 in
theorem lifted (os : Os) (started : os.Started) (H : Type) (enc : TypeId × Value → H) :
    ReturnsInHanded {} Tryz.checked os 3 .any (fun w args => (Rows.fnTreeSumSpec.pre enc Tryz.prog Tryz.f3 [] false w args ∧ laidMetH Tryz.prog laidTable w) ∧ sizedMet enc Tryz.prog Tryz.f3 (OpenSpec.ofChange Rows.fnTreeSumSpec) false w args)
      (Rows.fnTreeSumSpec.post enc Tryz.prog Tryz.f3 false true false false) := by
  refine returnsInHanded_of_change_and (C := Tryz.checked) (X := fun w _ => laidMetH Tryz.prog laidTable w) (fun _ _ _ hh h => h.of_heap hh) own started (by kernel_rfl) Tryz.func3
    (ChangeSpec.witness_shaped (enc := enc) (C := Tryz.checked) (os := os) (X := fun w _ => laidMetH Tryz.prog laidTable w) false (World.laidAll Tryz.prog os laidTable) #[.slice none 0 0] 8 (World.laidAll_os _ _ _) (World.shaped_of_ZipB (by kernel_rfl) (by kernel_rfl)) (by kernel_rfl) (by kernel_rfl) (by kernel_rfl) (by rw [MakeChecks.laidMetH_plain _ _ _ (by kernel_rfl)]; exact laidMet_laidAll _ (by kernel_rfl) (by kernel_rfl))) ?_
  intro W base args ds gs before hval0 hW _ _ hL _
  have hval : ∀ (j : Nat) t v, Tryz.f3.params[j]? = some t → args[j]? = some v → Value.okWide Tryz.prog W .any base t v := hval0
  have hW' := hW
  obtain ⟨p, q, hA0, hV, rfl, hfz, hnd⟩ := hW
  have hA : DataW.TrodAll enc Tryz.prog W 0 (fun _ => true) true Tryz.f3.params.toList args.toList ds p := hA0
  rw [Tryz.params3] at hA hval
  obtain ⟨v0, vs0, d0, ds0, p0, q0, hargs, rfl, rfl, h0, r0⟩ := trodAll_cons hA
  obtain ⟨rfl, rfl, rfl⟩ := trodAll_nil r0
  obtain rfl : args = #[v0] := by cases args; simp_all
  obtain ⟨rfl, rfl⟩ := trodVars_none hV
  obtain ⟨xa, xl, xc, rfl⟩ := okWide_slice Tryz.underlying22 (hval 0 22 _ rfl rfl)
  obtain ⟨fu, hf⟩ := h0
  have hc1 : Tryz.prog.cellsOf 5 = 1 := by kernel_rfl
  rcases open_ints Tryz.underlying22 Tryz.underlying5 hc1 hf with ⟨hcs, hx⟩ | ⟨a, len, cap, xs, hcs, hb, hle, hmax, hall, hx, hcell, hwf⟩
  · simp [Value.cells] at hcs
    obtain ⟨rfl, rfl, rfl⟩ := hcs
    simp only [Prod.mk.injEq] at hx
    obtain ⟨rfl, rfl⟩ := hx
    clear hA0 hval0 hf
    refine (walkFnTreeSum 0 0 none W (fun _ => ⟨none, 0, rfl, by omega, fun k hk => absurd hk (by omega)⟩)).mono fun e W' ⟨he, bel⟩ => ?_
    subst he
    exact ⟨_, rfl, _, _, _, [], _, [], hW', trodAll_mk1 (shut_bool Tryz.underlying4 _), (trodAll_cons_mk (shut_slice_nil Tryz.underlying22) trodAll_mk0), rfl, bel.frame _, fun h => by cases h⟩
  · simp [Value.cells] at hcs
    obtain ⟨rfl, rfl, rfl⟩ := hcs
    simp only [Prod.mk.injEq] at hx
    obtain ⟨rfl, rfl⟩ := hx
    simp only [if_true] at hall
    clear hA0 hval0 hf
    refine (walkFnTreeSum xl xc (some a) W (fun h => bytes_in (by omega) hcell hwf h)).mono fun e W' ⟨he, bel⟩ => ?_
    subst he
    have hlt : ∀ i, i < xs.length → a.block < W.heap.size := fun i hi => by
      rcases Nat.lt_or_ge (a.add i).block W.heap.size with h1 | h1
      · rw [block_add] at h1; exact h1
      · have := hcell i hi
        simp [World.cell?, Array.getElem?_eq_none h1] at this
    have hz : ∀ (p : Prop) [Decidable p], (0 < xs.length → p) → xs.length = (if p then xc else xl) := by
      intro p _ hp
      by_cases h : 0 < xs.length
      · rw [if_pos (hp h)]; exact hall
      · split <;> omega
    have hcell' : ∀ i, i < xs.length → W'.cell? (a.add i) = some (.int .u8 (xs.getD i 0)) := fun i hi => (bel.cell (p := a.add i) (by rw [block_add]; exact hlt i hi)).trans (hcell i hi)
    exact ⟨_, rfl, _, _, _, [], _, [], hW', trodAll_mk1 (shut_bool Tryz.underlying4 _), (trodAll_cons_mk ⟨2, shut_ints 0 Tryz.underlying22 Tryz.underlying5 hc1 hb hle hmax (hz _ (fun h => by simpa using hlt 0 h)) hcell' hwf⟩ trodAll_mk0), rfl, bel.frame _, fun h => by cases h⟩
theorem over : Rows.FnTreeSumSaid :=
  OpenClaim.holds_of_wide 3 Tryz.f3 rfl rfl rfl rfl rfl rfl rfl ⟨rfl, rfl, rfl, rfl, rfl⟩ rfl rfl rfl rfl rfl (by kernel_rfl) Tryz.func3 (by kernel_rfl)
    (of_decide_eq_true (by kernel_rfl)) (by unfold Func.isWrapper; first | (rw [if_pos (by decide +kernel)]; kernel_rfl) | (rw [if_neg (by decide +kernel)]; exact ⟨rfl, rfl⟩))
    (fun os started H enc _ => lifted os started H enc)
theorem proved : Rows.FnTreeSumCardSaid :=
  Claim7.holds_tied_plain_at .later [] [.data, .pinned] true (true, "09909237313e96c75e4fcaee09591883962c2282aa8ad1f56d1927c4629de08c") true
    over (fun _ h => by cases h) (by kernel_rfl) (fun _ h => by cases h) fnTreeSum_row_tie rfl ⟨rfl, rfl⟩ (by kernel_rfl) rfl
    (fun f fn hf hfn => by
      obtain rfl : f = 3 := Option.some.inj ((show Tryz.prog.funcNamed "pub-paratext/laws.FnTreeSum" = some 3 by kernel_rfl).symm.trans hf) |>.symm
      obtain rfl : fn = Tryz.f3 := (Option.some.inj (Tryz.func3.symm.trans hfn)).symm
      exact ⟨by kernel_rfl, fun j t ht => by
        rw [Tryz.params3] at ht
        have hm : t ∈ [22] := by simpa using Array.mem_of_getElem? ht
        have hall : ([22].all fun u => !Tryz.prog.wantsStandIn u) = true := by kernel_rfl
        exact (show Tryz.prog.wantsStandIn t = false by simpa using List.all_eq_true.1 hall t hm)⟩)
    (by kernel_rfl)
end Go.Proofs.YtnocllocnoodnaaGreatDoor.pFnTreeSum
