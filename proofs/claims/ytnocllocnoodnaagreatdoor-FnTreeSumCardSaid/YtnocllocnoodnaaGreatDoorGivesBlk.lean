/- The builder's blocks: that 'given' makes of them what 'built' turns to a block. -/
import Derived.Test.YtnocllocnoodnaaGreatDoorBeside
import Derived.Test.YtnocllocnoodnaaGreatDoorBuilt3
import Derived.Test.YtnocllocnoodnaaGreatDoorGiven4
import Derived.Test.YtnocllocnoodnaaGreatDoorGiven5
namespace Go.Proofs.YtnocllocnoodnaaGreatDoor
open Go.RowKit
/-- a node of a block; M bounds the bytes that it prints -/
def BlkP (M lo hi : Nat) (cs : Array Value) (w : World) : Prop :=
  ∃ (tx : Bool → Bool) (T : Bool → List UInt8), tx false = false ∧ (∀ tg, (T tg).length ≤ M) ∧ GivesTo (fun tg => BuildsTo (tx tg) (T tg)) lo hi cs w
/-- a node of an item -/
def ItP (M lo hi : Nat) (cs : Array Value) (w : World) : Prop :=
  ∃ T : Bool → List UInt8, (∀ tg, (T tg).length ≤ M) ∧ GivesTo (fun tg => ItemsTo (T tg)) lo hi cs w
theorem blk_say (M : Nat) : SayN (BlkP M) where
  keep := fun _ _ _ _ _ ⟨tx, T, h1, h2, h3⟩ hs hz => ⟨tx, T, h1, h2, (gives_say _).keep _ _ _ _ _ h3 hs hz⟩
  wide := fun _ _ _ _ _ _ ⟨tx, T, h1, h2, h3⟩ g1 g2 => ⟨tx, T, h1, h2, (gives_say _).wide _ _ _ _ _ _ h3 g1 g2⟩
theorem it_say (M : Nat) : SayN (ItP M) where
  keep := fun _ _ _ _ _ ⟨T, h2, h3⟩ hs hz => ⟨T, h2, (gives_say _).keep _ _ _ _ _ h3 hs hz⟩
  wide := fun _ _ _ _ _ _ ⟨T, h2, h3⟩ g1 g2 => ⟨T, h2, (gives_say _).wide _ _ _ _ _ _ h3 g1 g2⟩
theorem BlkP.more {M M' lo hi : Nat} {cs : Array Value} {w : World} (h : BlkP M lo hi cs w) (hM : M ≤ M') : BlkP M' lo hi cs w := by
  obtain ⟨tx, T, h1, h2, h3⟩ := h
  exact ⟨tx, T, h1, fun tg => Nat.le_trans (h2 tg) hM, h3⟩
/-- whatever the lines -/
theorem GivesTo.lines {Q : Bool → Nat → Nat → Array Value → World → Prop} {lo hi : Nat} {k : Int} {t ti : ByteArray} {nu : Int} {ch : ByteArray} {lb : Bool} {ks : Value} {fr tl : Int} {w : World} (h : GivesTo Q lo hi (spcG k t ti nu ch lb ks fr tl) w) (fr' tl' : Int) : GivesTo Q lo hi (spcG k t ti nu ch lb ks fr' tl') w := by
  obtain ⟨k2, t2, ti2, nu2, ch2, lb2, ks2, fr2, tl2, he, hk, h⟩ := h
  simp only [spcG, Array.mk.injEq, List.cons.injEq, Value.int.injEq, Value.string.injEq, Value.bool.injEq, true_and, and_true] at he
  obtain ⟨rfl, rfl, rfl, rfl, rfl, rfl, rfl, rfl, rfl⟩ := he
  exact ⟨_, _, _, _, _, _, _, _, _, rfl, hk, h⟩
theorem BlkP.form {M lo hi : Nat} {cs : Array Value} {w : World} (h : BlkP M lo hi cs w) : ∃ k t ti nu ch lb ks fr tl, cs = spcG k t ti nu ch lb ks fr tl ∧ KidsV ks ∧ ∀ fr' tl', BlkP M lo hi (spcG k t ti nu ch lb ks fr' tl') w := by
  obtain ⟨tx, T, h1, h2, h3⟩ := h
  have h4 := h3
  obtain ⟨k, t, ti, nu, ch, lb, ks, fr, tl, rfl, hk, _⟩ := h4
  exact ⟨k, t, ti, nu, ch, lb, ks, fr, tl, rfl, hk, fun fr' tl' => ⟨tx, T, h1, h2, h3.lines fr' tl'⟩⟩
theorem sumT_total (Ts : Nat → List UInt8) (css : List (Array Value × Nat)) (h : ∀ i (hi : i < css.length), (Ts i).length ≤ 6 * css[i].2 + 60) : ∀ n, n ≤ css.length → (sumT Ts n).length ≤ 6 * total (css.take n) + 60 * n
  | 0, _ => by simp [sumT]
  | n + 1, hn => by
    have h1 := sumT_total Ts css h n (by omega)
    have h2 := h n (by omega)
    have h3 := total_take (css := css) (k := n) (by omega)
    simp only [sumT, List.length_append]
    omega
theorem sumT_const (Ts : Nat → List UInt8) (M : Nat) : ∀ n, (∀ i, i < n → (Ts i).length ≤ M) → (sumT Ts n).length ≤ n * M
  | 0, _ => by simp [sumT]
  | n + 1, h => by
    have h1 := sumT_const Ts M n (fun i hi => h i (by omega))
    have h2 := h n (by omega)
    rw [Nat.succ_mul]
    simp only [sumT, List.length_append]
    omega
/-- the inlines of a line, as a row that is given -/
theorem inl_kids {B : Nat} {css : List (Array Value × Nat)} {ks : Value} {w : World} (h : Nodes InlP inlC B css ks w) (h0 : 0 < css.length) (ht : total css ≤ 1000) : ∃ (Ts : Nat → List UInt8) (kb c : Nat), (sumT Ts css.length).length ≤ 6 * total css + 60 * css.length ∧ ks = .slice (some ⟨kb, 0, none⟩) css.length c ∧ B ≤ kb ∧ kb < w.heap.size ∧ RowAt 27 kb ((css.map (·.1)).flatMap Array.toList) w ∧
    ∀ i (h : i < (css.map (·.1)).length), GivesTo (fun _ => PutsTo (Ts i)) B w.heap.size (css.map (·.1))[i] w := by
  obtain ⟨kb, c, h1, h2, h3, h4⟩ := owns_rowQ h.1 h0
  have he : css.flatMap inlC = (css.map (·.1)).flatMap Array.toList := by rw [List.flatMap_map]; rfl
  rw [he] at h4
  have hg : ∀ i : Nat, ∃ T : List UInt8, ∀ (hi : i < css.length), T.length ≤ 6 * css[i].2 + 60 ∧ GivesTo (fun _ => PutsTo T) B w.heap.size css[i].1 w := by
    intro i
    by_cases hi : i < css.length
    · obtain ⟨lo, hi', k1, k2, k3, _⟩ := h.2 css[i] (List.getElem_mem hi)
      obtain ⟨T, k4, k5⟩ := k3.gives (by have := total_mem (List.getElem_mem hi); omega)
      exact ⟨T, fun _ => ⟨k4, (gives_say _).wide _ _ _ _ _ _ k5 k1 k2⟩⟩
    · exact ⟨[], fun h => absurd h hi⟩
  obtain ⟨Ts, hTs⟩ := Classical.axiomOfChoice hg
  refine ⟨Ts, kb, c, ?_, h1, h2, h3, h4, ?_⟩
  · have := sumT_total Ts css (fun i hi => (hTs i hi).1) css.length (Nat.le_refl _)
    rw [List.take_length] at this
    exact this
  · intro i hi
    have := (hTs i (by simpa using hi)).2
    simpa using this
/-- the nodes of blocks, likewise -/
theorem row_kids {P : Nat → Nat → Array Value → World → Prop} {B : Nat} {css : List (Array Value)} {ks : Value} {w : World} (h : Nodes P Array.toList B css ks w) (hS : SayN P) (h0 : 0 < css.length) : ∃ (kb c : Nat), ks = .slice (some ⟨kb, 0, none⟩) css.length c ∧ B ≤ kb ∧ kb < w.heap.size ∧ RowAt 27 kb (css.flatMap Array.toList) w ∧ ∀ c ∈ css, P B w.heap.size c w := by
  obtain ⟨kb, c, h1, h2, h3, h4⟩ := owns_rowQ h.1 h0
  refine ⟨kb, c, h1, h2, h3, h4, ?_⟩
  intro d hd
  obtain ⟨lo, hi, k1, k2, k3, _⟩ := h.2 d hd
  exact hS.wide _ _ _ _ _ _ k3 k1 k2
theorem turned_putsX {Ts : Nat → List UInt8} {n : Nat} {css : List (Array Value)} {o : Value} {w w' : World} (hn : css.length = n) (h0 : 0 < n) (h1000 : n ≤ 1000) (hm : Made (fun i => PutsTo (Ts i)) Array.toList 33 16 w.heap.size css o w') : RowPuts Ts n w.heap.size w'.heap.size o w' := by
  obtain ⟨hown, hq⟩ := hm
  obtain ⟨g, cap, rfl, g1, g2, g3⟩ := owns_rowQ hown (by omega)
  subst hn
  refine ⟨g, cap, css, rfl, rfl, h0, h1000, g1, g2, g3, ?_⟩
  intro i hi
  obtain ⟨lo, hi', k1, k2, k3, _⟩ := hq i hi
  exact k3.wide k1 k2
theorem turned_builds {txs : Nat → Bool} {Ts : Nat → List UInt8} {n : Nat} {css : List (Array Value)} {o : Value} {w w' : World} (hn : css.length = n) (h0 : 0 < n) (h1000 : n ≤ 1000) (hm : Made (fun i => BuildsTo (txs i) (Ts i)) Array.toList 33 16 w.heap.size css o w') : RowBuilds txs Ts n w.heap.size w'.heap.size o w' := by
  obtain ⟨hown, hq⟩ := hm
  obtain ⟨g, cap, rfl, g1, g2, g3⟩ := owns_rowQ hown (by omega)
  subst hn
  refine ⟨g, cap, css, rfl, rfl, h0, h1000, g1, g2, g3, ?_⟩
  intro i hi
  obtain ⟨lo, hi', k1, k2, k3, _⟩ := hq i hi
  exact k3.wide k1 k2
theorem turned_items {Ts : Nat → List UInt8} {n : Nat} {css : List (Array Value)} {o : Value} {w w' : World} (hn : css.length = n) (h0 : 0 < n) (h1000 : n ≤ 1000) (hm : Made (fun i => ItemsTo (Ts i)) Array.toList 33 16 w.heap.size css o w') : RowItems Ts n w.heap.size w'.heap.size o w' := by
  obtain ⟨hown, hq⟩ := hm
  obtain ⟨g, cap, rfl, g1, g2, g3⟩ := owns_rowQ hown (by omega)
  subst hn
  refine ⟨g, cap, css, rfl, rfl, h0, h1000, g1, g2, g3, ?_⟩
  intro i hi
  obtain ⟨lo, hi', k1, k2, k3, _⟩ := hq i hi
  exact (items_sayable Ts).wide i _ _ _ _ _ _ k3 k1 k2
theorem rowat_same {e : TypeId} {a lo hi : Nat} {vs : List Value} {w w' : World} (h : RowAt e a vs w) (hs : Same e lo hi w w') (h1 : lo ≤ a) (h2 : a < hi) : RowAt e a vs w' := h.of (hs a h1 h2 h.typed)
theorem blk_para {B : Nat} {css : List (Array Value × Nat)} {ks : Value} {w : World} (h : Nodes InlP inlC B css ks w) (h0 : 0 < css.length) (h1 : css.length ≤ 20) (ht : total css ≤ 180) (fr tl : Int) : BlkP 3000 B w.heap.size (spcG 6 ⟨#[]⟩ ⟨#[]⟩ 0 ⟨#[]⟩ false ks fr tl) w := by
  obtain ⟨Ts, kb, c, hT, rfl, hB, hk, hrow, hg⟩ := inl_kids h h0 (by omega)
  have hl : (css.map (·.1)).length = css.length := by simp
  refine ⟨fun tg => tg, fun tg => if tg then sumT Ts css.length else [60, 112, 62] ++ (sumT Ts css.length ++ [60, 47, 112, 62, 10]), rfl, ?_, _, _, _, _, _, _, _, _, _, rfl, .inr ⟨_, _, _, rfl⟩, ?_⟩
  · intro tg
    cases tg <;> simp <;> omega
  intro fr tl tg w' hs hz hh
  have hrow' := rowat_same hrow hs hB hk
  have hg' : ∀ i (h : i < (css.map (·.1)).length), GivesTo (fun _ => PutsTo (Ts i)) B w.heap.size (css.map (·.1))[i] w' := fun i hi => (gives_say _).keep _ _ _ _ _ (hg i hi) hs hz
  cases tg
  · have := given_zeroF (fun i _ => PutsTo (Ts i)) (puts_sayable Ts) (css.map (·.1)) kb c B w.heap.size 6 ⟨#[]⟩ ⟨#[]⟩ 0 ⟨#[]⟩ false rfl rfl rfl rfl rfl rfl fr tl w' hrow' (by omega) hh hg'
    rw [hl] at this
    refine this.mono ?_
    rintro e w2 ⟨cs2, o, hn, rfl, hm, _, hb⟩
    have hp := built_para Ts css.length w'.heap.size w2.heap.size o w2 (turned_putsX hn h0 (by omega) hm)
    exact ⟨_, rfl, hp.1, hp.2.1, hp, hb⟩
  · have := given_tight (fun i _ => PutsTo (Ts i)) (puts_sayable Ts) (css.map (·.1)) kb c B w.heap.size fr tl w' hrow' (by omega) hh hg'
    rw [hl] at this
    refine this.mono ?_
    rintro e w2 ⟨cs2, o, hn, rfl, hm, _, hb⟩
    have hp := built_tight Ts css.length w'.heap.size w2.heap.size o w2 (turned_putsX hn h0 (by omega) hm)
    exact ⟨_, rfl, hp.1, hp.2.1, hp, hb⟩
theorem headH_len (i : Nat) (S : List UInt8) (hi : i < 100) : (headH i S).length ≤ S.length + 30 := by
  have := dig_len i hi
  unfold headH
  simp
  omega
theorem blk_heading {B i : Nat} {css : List (Array Value × Nat)} {ks : Value} {w : World} (h : Nodes InlP inlC B css ks w) (h0 : 0 < css.length) (h1 : css.length ≤ 20) (ht : total css ≤ 180) (hi : i < 100) (fr tl : Int) : BlkP 3000 B w.heap.size (spcG 5 ⟨#[]⟩ ⟨#[]⟩ (i : Nat) ⟨#[]⟩ false ks fr tl) w := by
  obtain ⟨Ts, kb, c, hT, rfl, hB, hk, hrow, hg⟩ := inl_kids h h0 (by omega)
  have hl : (css.map (·.1)).length = css.length := by simp
  refine ⟨fun _ => false, fun _ => headH i (sumT Ts css.length), rfl, ?_, _, _, _, _, _, _, _, _, _, rfl, .inr ⟨_, _, _, rfl⟩, ?_⟩
  · intro _
    have := headH_len i (sumT Ts css.length) hi
    show (headH i (sumT Ts css.length)).length ≤ 3000
    omega
  intro fr tl tg w' hs hz hh
  have hrow' := rowat_same hrow hs hB hk
  have hg' : ∀ i (h : i < (css.map (·.1)).length), GivesTo (fun _ => PutsTo (Ts i)) B w.heap.size (css.map (·.1))[i] w' := fun i hi => (gives_say _).keep _ _ _ _ _ (hg i hi) hs hz
  have key : ∀ e w2, TurnedRow (fun i => PutsTo (Ts i)) (fun o => blkG 5 ⟨#[]⟩ ⟨#[]⟩ (i : Nat) ⟨#[]⟩ false o ⟨#[]⟩ 0 false) css.length w' e w2 → GivenX (BuildsTo false (headH i (sumT Ts css.length))) w' e w2 := by
    rintro e w2 ⟨cs2, o, hn, rfl, hm, _, hb⟩
    have hp := built_heading Ts css.length w'.heap.size w2.heap.size i o w2 (turned_putsX hn h0 (by omega) hm) hi
    exact ⟨_, rfl, hp.1, hp.2.1, hp, hb⟩
  cases tg
  · have := given_zeroF (fun i _ => PutsTo (Ts i)) (puts_sayable Ts) (css.map (·.1)) kb c B w.heap.size 5 ⟨#[]⟩ ⟨#[]⟩ (i : Nat) ⟨#[]⟩ false rfl rfl rfl rfl rfl rfl fr tl w' hrow' (by omega) hh hg'
    rw [hl] at this
    exact this.mono key
  · have := given_zeroT (fun i _ => PutsTo (Ts i)) (puts_sayable Ts) (css.map (·.1)) kb c B w.heap.size 5 ⟨#[]⟩ ⟨#[]⟩ (i : Nat) ⟨#[]⟩ false rfl rfl rfl rfl rfl rfl rfl fr tl w' hrow' (by omega) hh hg'
    rw [hl] at this
    exact this.mono key
theorem blk_break (lo hi : Nat) (w : World) : BlkP 3000 lo hi (spcG 9 ⟨#[]⟩ ⟨#[]⟩ 0 ⟨#[]⟩ false (.slice none 0 0) 0 0) w := by
  refine ⟨fun _ => false, fun _ => [60, 104, 114, 32, 47, 62, 10], rfl, fun _ => by simp, _, _, _, _, _, _, _, _, _, rfl, .inl rfl, ?_⟩
  intro fr tl tg w' _ _ _
  have key : ∀ e w2, (e = .returned (.agg (blkG 9 ⟨#[]⟩ ⟨#[]⟩ 0 ⟨#[]⟩ false (.slice none 0 0) ⟨#[42, 42, 42]⟩ 0 false)) ∧ Below w'.heap.size w' w2) → GivenX (BuildsTo false [60, 104, 114, 32, 47, 62, 10]) w' e w2 := by
    rintro e w2 ⟨rfl, hb⟩
    have hp := built_break ⟨#[42, 42, 42]⟩ w'.heap.size w2.heap.size w2
    exact ⟨_, rfl, hp.1, hp.2.1, hp, hb⟩
  cases tg
  · exact (given_breakF fr tl w').mono key
  · exact (given_breakT fr tl w').mono key
theorem blk_quote {B M : Nat} {css : List (Array Value)} {ks : Value} {w : World} (h : Nodes (BlkP M) Array.toList B css ks w) (h0 : 0 < css.length) (h1 : css.length ≤ 100) (fr tl : Int) : BlkP (css.length * M + 27) B w.heap.size (spcG 2 ⟨#[]⟩ ⟨#[]⟩ 0 ⟨#[]⟩ false ks fr tl) w := by
  obtain ⟨kb, c, rfl, hB, hk, hrow, hg⟩ := row_kids h (blk_say M) h0
  have hg1 : ∀ i : Nat, ∃ (txT : (Bool → Bool) × (Bool → List UInt8)), ∀ (hi : i < css.length), txT.1 false = false ∧ (∀ tg, (txT.2 tg).length ≤ M) ∧ GivesTo (fun tg => BuildsTo (txT.1 tg) (txT.2 tg)) B w.heap.size css[i] w := by
    intro i
    by_cases hi : i < css.length
    · obtain ⟨tx, T, k1, k2, k3⟩ := hg css[i] (List.getElem_mem hi)
      exact ⟨(tx, T), fun _ => ⟨k1, k2, k3⟩⟩
    · exact ⟨(fun _ => false, fun _ => []), fun h => absurd h hi⟩
  obtain ⟨F, hF⟩ := Classical.axiomOfChoice hg1
  refine ⟨fun _ => false, fun _ => [60, 98, 108, 111, 99, 107, 113, 117, 111, 116, 101, 62, 10] ++ (sumT (fun i => (F i).2 false) css.length ++ [60, 47, 98, 108, 111, 99, 107, 113, 117, 111, 116, 101, 62, 10]), rfl, ?_, _, _, _, _, _, _, _, _, _, rfl, .inr ⟨_, _, _, rfl⟩, ?_⟩
  · intro _
    have := sumT_const (fun i => (F i).2 false) M css.length (fun i hi => (hF i hi).2.1 false)
    simp
    omega
  intro fr tl tg w' hs hz hh
  have hrow' := rowat_same hrow hs hB hk
  have hg' : ∀ i (h : i < css.length), GivesTo (fun tg => BuildsTo ((F i).1 tg) ((F i).2 tg)) B w.heap.size css[i] w' := fun i hi => (gives_say _).keep _ _ _ _ _ (hF i hi).2.2 hs hz
  have key : ∀ e w2, TurnedRow (fun i => BuildsTo ((F i).1 false) ((F i).2 false)) (fun o => blkG 2 ⟨#[]⟩ ⟨#[]⟩ 0 ⟨#[]⟩ false o ⟨#[]⟩ 0 false) css.length w' e w2 → GivenX (BuildsTo false ([60, 98, 108, 111, 99, 107, 113, 117, 111, 116, 101, 62, 10] ++ (sumT (fun i => (F i).2 false) css.length ++ [60, 47, 98, 108, 111, 99, 107, 113, 117, 111, 116, 101, 62, 10]))) w' e w2 := by
    rintro e w2 ⟨cs2, o, hn, rfl, hm, _, hb⟩
    have hr := turned_builds hn h0 (by omega) hm
    have hr2 : RowBuilds (fun _ => false) (fun i => (F i).2 false) css.length w'.heap.size w2.heap.size o w2 := by
      obtain ⟨kb2, c2, cs3, j1, j2, j3, j4, j5, j6, j7, j8⟩ := hr
      exact ⟨kb2, c2, cs3, j1, j2, j3, j4, j5, j6, j7, fun i hi => by have := j8 i hi; simp only [(hF i (by omega)).1] at this; exact this⟩
    have hp := built_quote _ css.length w'.heap.size w2.heap.size o w2 hr2
    exact ⟨_, rfl, hp.1, hp.2.1, hp, hb⟩
  cases tg
  · exact (given_zeroF (fun i tg => BuildsTo ((F i).1 tg) ((F i).2 tg)) (builds_sayable _ _) css kb c B w.heap.size 2 ⟨#[]⟩ ⟨#[]⟩ 0 ⟨#[]⟩ false rfl rfl rfl rfl rfl rfl fr tl w' hrow' (by omega) hh hg').mono key
  · exact (given_zeroT (fun i tg => BuildsTo ((F i).1 tg) ((F i).2 tg)) (builds_sayable _ _) css kb c B w.heap.size 2 ⟨#[]⟩ ⟨#[]⟩ 0 ⟨#[]⟩ false rfl rfl rfl rfl rfl rfl rfl fr tl w' hrow' (by omega) hh hg').mono key
theorem itemH_len (txs : Nat → Bool) (Ts : Nat → List UInt8) (n M : Nat) (h : ∀ i, i < n → (Ts i).length ≤ M) : (itemH txs Ts n).length ≤ n * (M + 1) + 11 := by
  have h1 := sumT_const (partT txs Ts n) (M + 1) n (fun i hi => by
    unfold partT
    have := h i hi
    split <;> simp <;> omega)
  unfold itemH
  split <;> simp <;> omega
theorem it_item {B M : Nat} {css : List (Array Value)} {ks : Value} {w : World} (h : Nodes (BlkP M) Array.toList B css ks w) (h0 : 0 < css.length) (h1 : css.length ≤ 100) (fr tl : Int) : ItP (css.length * (M + 1) + 11) B w.heap.size (spcG 4 ⟨#[]⟩ ⟨#[]⟩ 0 ⟨#[]⟩ false ks fr tl) w := by
  obtain ⟨kb, c, rfl, hB, hk, hrow, hg⟩ := row_kids h (blk_say M) h0
  have hg1 : ∀ i : Nat, ∃ (txT : (Bool → Bool) × (Bool → List UInt8)), ∀ (hi : i < css.length), txT.1 false = false ∧ (∀ tg, (txT.2 tg).length ≤ M) ∧ GivesTo (fun tg => BuildsTo (txT.1 tg) (txT.2 tg)) B w.heap.size css[i] w := by
    intro i
    by_cases hi : i < css.length
    · obtain ⟨tx, T, k1, k2, k3⟩ := hg css[i] (List.getElem_mem hi)
      exact ⟨(tx, T), fun _ => ⟨k1, k2, k3⟩⟩
    · exact ⟨(fun _ => false, fun _ => []), fun h => absurd h hi⟩
  obtain ⟨F, hF⟩ := Classical.axiomOfChoice hg1
  refine ⟨fun tg => itemH (fun i => (F i).1 tg) (fun i => (F i).2 tg) css.length, ?_, _, _, _, _, _, _, _, _, _, rfl, .inr ⟨_, _, _, rfl⟩, ?_⟩
  · intro tg
    exact itemH_len _ _ _ _ (fun i hi => (hF i hi).2.1 tg)
  intro fr tl tg w' hs hz hh
  have hrow' := rowat_same hrow hs hB hk
  have hg' : ∀ i (h : i < css.length), GivesTo (fun tg => BuildsTo ((F i).1 tg) ((F i).2 tg)) B w.heap.size css[i] w' := fun i hi => (gives_say _).keep _ _ _ _ _ (hF i hi).2.2 hs hz
  have key : ∀ tg e w2, TurnedRow (fun i => BuildsTo ((F i).1 tg) ((F i).2 tg)) (fun o => blkG 4 ⟨#[]⟩ ⟨#[]⟩ 0 ⟨#[]⟩ false o ⟨#[]⟩ 4 false) css.length w' e w2 → GivenX (ItemsTo (itemH (fun i => (F i).1 tg) (fun i => (F i).2 tg) css.length)) w' e w2 := by
    rintro tg e w2 ⟨cs2, o, hn, rfl, hm, _, hb⟩
    have hp := items_of _ _ css.length w'.heap.size w2.heap.size o w2 (turned_builds hn h0 (by omega) hm)
    exact ⟨_, rfl, hp.1, hp.2.1, hp, hb⟩
  cases tg
  · exact (given_itemF (fun i tg => BuildsTo ((F i).1 tg) ((F i).2 tg)) (builds_sayable _ _) css kb c B w.heap.size fr tl w' hrow' (by omega) hh hg').mono (key false)
  · exact (given_itemT (fun i tg => BuildsTo ((F i).1 tg) ((F i).2 tg)) (builds_sayable _ _) css kb c B w.heap.size fr tl w' hrow' (by omega) hh hg').mono (key true)
theorem listH_len (o : Bool) (i : Nat) (S : List UInt8) (hi : i < 100) : (listH o i S).length ≤ S.length + 30 := by
  have := dig_len i hi
  unfold listH listO listC
  cases o
  · simp
  · by_cases h1 : i = 1
    · simp [h1]
    · simp [h1]; omega
theorem blk_list {B M i : Nat} {css : List (Array Value)} {ks : Value} {nu : Int} {c0 : UInt8} {lb : Bool} {w : World} (h : Nodes (ItP M) Array.toList B css ks w) (h0 : 0 < css.length) (h1 : css.length ≤ 100) (hnu : nu = -1 ∧ i = 0 ∨ nu = (i : Nat)) (hi : i < 100) (hc : c0.toNat < 128) (fr tl : Int) : BlkP (css.length * M + 30) B w.heap.size (spcG 3 ⟨#[]⟩ ⟨#[]⟩ nu ⟨#[c0]⟩ lb ks fr tl) w := by
  obtain ⟨kb, c, rfl, hB, hk, hrow, hg⟩ := row_kids h (it_say M) h0
  have hg1 : ∀ i : Nat, ∃ (T : Bool → List UInt8), ∀ (hi : i < css.length), (∀ tg, (T tg).length ≤ M) ∧ GivesTo (fun tg => ItemsTo (T tg)) B w.heap.size css[i] w := by
    intro i
    by_cases hi : i < css.length
    · obtain ⟨T, k2, k3⟩ := hg css[i] (List.getElem_mem hi)
      exact ⟨T, fun _ => ⟨k2, k3⟩⟩
    · exact ⟨fun _ => [], fun h => absurd h hi⟩
  obtain ⟨F, hF⟩ := Classical.axiomOfChoice hg1
  refine ⟨fun _ => false, fun _ => listH (decide ((c0.toNat : Int) = 46 ∨ (c0.toNat : Int) = 41)) i (sumT (fun j => F j (!lb)) css.length), rfl, ?_, _, _, _, _, _, _, _, _, _, rfl, .inr ⟨_, _, _, rfl⟩, ?_⟩
  · intro _
    have h2 := sumT_const (fun j => F j (!lb)) M css.length (fun j hj => (hF j hj).1 _)
    show (listH _ _ _).length ≤ _
    have h3 := listH_len (decide ((c0.toNat : Int) = 46 ∨ (c0.toNat : Int) = 41)) i (sumT (fun j => F j (!lb)) css.length) hi
    omega
  intro fr tl tg w' hs hz hh
  have hrow' := rowat_same hrow hs hB hk
  have hg' : ∀ i (h : i < css.length), GivesTo (fun tg => ItemsTo (F i tg)) B w.heap.size css[i] w' := fun i hi => (gives_say _).keep _ _ _ _ _ (hF i hi).2 hs hz
  have key : ∀ e w2, TurnedRow (fun j => ItemsTo (F j (!lb))) (fun o => blkG 3 ⟨#[]⟩ ⟨#[]⟩ nu ⟨#[c0]⟩ lb o ⟨#[]⟩ 0 false) css.length w' e w2 → GivenX (BuildsTo false (listH (decide ((c0.toNat : Int) = 46 ∨ (c0.toNat : Int) = 41)) i (sumT (fun j => F j (!lb)) css.length))) w' e w2 := by
    rintro e w2 ⟨cs2, o, hn, rfl, hm, _, hb⟩
    have hp := built_list _ css.length w'.heap.size w2.heap.size i ⟨#[]⟩ c0 lb nu hnu hi hc o w2 (turned_items hn h0 (by omega) hm)
    exact ⟨_, rfl, hp.1, hp.2.1, hp, hb⟩
  cases lb <;> cases tg
  · exact (given_listFF (fun i tg => ItemsTo (F i tg)) (items_sayable _) css kb c B w.heap.size ⟨#[]⟩ nu ⟨#[c0]⟩ fr tl w' hrow' (by omega) hh hg').mono key
  · exact (given_listFT (fun i tg => ItemsTo (F i tg)) (items_sayable _) css kb c B w.heap.size ⟨#[]⟩ nu ⟨#[c0]⟩ fr tl w' hrow' (by omega) hh hg').mono key
  · exact (given_listTF (fun i tg => ItemsTo (F i tg)) (items_sayable _) css kb c B w.heap.size ⟨#[]⟩ nu ⟨#[c0]⟩ fr tl w' hrow' (by omega) hh hg').mono key
  · exact (given_listTT (fun i tg => ItemsTo (F i tg)) (items_sayable _) css kb c B w.heap.size ⟨#[]⟩ nu ⟨#[c0]⟩ fr tl w' hrow' (by omega) hh hg').mono key
end Go.Proofs.YtnocllocnoodnaaGreatDoor
