/- The builder's inlines: what is said of a node of a line; that 'given' makes of it what 'put' turns to an inline. -/
import Derived.Test.YtnocllocnoodnaaGreatDoorGiven6
import Derived.Test.YtnocllocnoodnaaGreatDoorGiven7
import Derived.Test.YtnocllocnoodnaaGreatDoorGiven2
import Derived.Test.YtnocllocnoodnaaGreatDoorGiven3
import Derived.Test.YtnocllocnoodnaaGreatDoorGiven1
namespace Go.Proofs.YtnocllocnoodnaaGreatDoor
open Go.RowKit
/-- a text's node -/
def plainC (t : ByteArray) : Array Value := spcG 20 t ⟨#[]⟩ 0 ⟨#[]⟩ false (.slice none 0 0) 0 0
/-- a node of a line, and a bound on the bytes of its texts -/
def InlP (lo hi : Nat) (x : Array Value × Nat) (w : World) : Prop :=
  (∃ t : ByteArray, t.size ≤ x.2 ∧ x.1 = plainC t) ∨
  (∃ k t ti nu ch lb ks fr tl, (k == 20) = false ∧ x.1 = spcG k t ti nu ch lb ks fr tl ∧ KidsV ks ∧ ∃ T : List UInt8, T.length ≤ 6 * x.2 + 60 ∧ GivesTo (fun _ => PutsTo T) lo hi x.1 w)
def inlC (x : Array Value × Nat) : List Value := x.1.toList
def total (l : List (Array Value × Nat)) : Nat := (l.map (·.2)).sum
theorem total_snoc (l : List (Array Value × Nat)) (x : Array Value × Nat) : total (l ++ [x]) = total l + x.2 := by simp [total]
theorem total_mem {l : List (Array Value × Nat)} {x : Array Value × Nat} (h : x ∈ l) : x.2 ≤ total l := by
  induction l with
  | nil => cases h
  | cons y r ih =>
    simp only [total, List.map_cons, List.sum_cons]
    rcases List.mem_cons.1 h with rfl | h
    · omega
    · have := ih h; unfold total at this; omega
theorem inl_say : SayN InlP where
  keep := by
    intro lo hi c w1 w2 h hs hz
    rcases h with h | ⟨k, t, ti, nu, ch, lb, ks, fr, tl, h1, h2, h3, T, h4, h5⟩
    · exact .inl h
    · exact .inr ⟨k, t, ti, nu, ch, lb, ks, fr, tl, h1, h2, h3, T, h4, (gives_say _).keep _ _ _ _ _ h5 hs hz⟩
  wide := by
    intro lo hi lo' hi' c w h g1 g2
    rcases h with h | ⟨k, t, ti, nu, ch, lb, ks, fr, tl, h1, h2, h3, T, h4, h5⟩
    · exact .inl h
    · exact .inr ⟨k, t, ti, nu, ch, lb, ks, fr, tl, h1, h2, h3, T, h4, (gives_say _).wide _ _ _ _ _ _ h5 g1 g2⟩
theorem InlP.shape {lo hi : Nat} {x : Array Value × Nat} {w : World} (h : InlP lo hi x w) : ∃ k t ti nu ch lb ks fr tl, x.1 = spcG k t ti nu ch lb ks fr tl ∧ KidsV ks := by
  rcases h with ⟨t, _, h⟩ | ⟨k, t, ti, nu, ch, lb, ks, fr, tl, _, h, h2, _⟩
  · exact ⟨_, _, _, _, _, _, _, _, _, h, .inl rfl⟩
  · exact ⟨k, t, ti, nu, ch, lb, ks, fr, tl, h, h2⟩
/-- a leaf of which 'put' makes this -/
theorem gives_leaf (k : Int) (t : ByteArray) (T : List UInt8) (lo hi : Nat) (w : World) (h7 : (k == 7) = false) (h9 : (k == 9) = false) (h24 : (k == 24) = false) (h25 : (k == 25) = false) (h4 : (k == 4) = false) (h6 : (k == 6) = false)
    (h : ∀ lo hi w, PutsTo T lo hi (inlG k t (.slice none 0 0) ⟨#[]⟩) w) : GivesTo (fun _ => PutsTo T) lo hi (spcG k t ⟨#[]⟩ 0 ⟨#[]⟩ false (.slice none 0 0) 0 0) w := by
  refine ⟨_, _, _, _, _, _, _, _, _, rfl, .inl rfl, ?_⟩
  intro fr tl tg w' _ _ _
  cases tg
  · refine (given_leafF k t h7 h9 h24 h25 h4 fr tl w').mono ?_
    rintro e w2 ⟨rfl, hb⟩
    exact ⟨_, rfl, (h 0 0 w2).1, (h 0 0 w2).2.1, h _ _ _, hb⟩
  · refine (given_leafT k t h7 h9 h24 h25 h4 h6 fr tl w').mono ?_
    rintro e w2 ⟨rfl, hb⟩
    exact ⟨_, rfl, (h 0 0 w2).1, (h 0 0 w2).2.1, h _ _ _, hb⟩
theorem gives_plain (t : ByteArray) (lo hi : Nat) (w : World) (ht : t.size ≤ 1000) : GivesTo (fun _ => PutsTo (escP htmlK htmlE t.data.toList)) lo hi (plainC t) w :=
  gives_leaf 20 t _ lo hi w rfl rfl rfl rfl rfl rfl (fun lo hi w => put_plain t lo hi w ht)
theorem gives_soft (lo hi : Nat) (w : World) : GivesTo (fun _ => PutsTo [10]) lo hi (spcG 21 ⟨#[]⟩ ⟨#[]⟩ 0 ⟨#[]⟩ false (.slice none 0 0) 0 0) w :=
  gives_leaf 21 _ _ lo hi w rfl rfl rfl rfl rfl rfl (fun lo hi w => put_soft lo hi w)
theorem gives_span (t : ByteArray) (lo hi : Nat) (w : World) (ht : t.size ≤ 1000) : GivesTo (fun _ => PutsTo (codeH t)) lo hi (spcG 23 t ⟨#[]⟩ 0 ⟨#[]⟩ false (.slice none 0 0) 0 0) w :=
  gives_leaf 23 t _ lo hi w rfl rfl rfl rfl rfl rfl (fun lo hi w => put_span t lo hi w ht)
/-- a slice of one text -/
def OneText (t : ByteArray) (lo hi : Nat) (ks : Value) (w : World) : Prop := ∃ kb c, ks = .slice (some ⟨kb, 0, none⟩) 1 c ∧ lo ≤ kb ∧ kb < hi ∧ RowAt 27 kb (plainC t).toList w
theorem RowAt.typed {e : TypeId} {a : Nat} {vs : List Value} {w : World} (h : RowAt e a vs w) : Typed e a w := by
  obtain ⟨cur, h1, _⟩ := h
  exact ⟨cur, _, h1⟩
theorem OneText.same {t : ByteArray} {lo hi : Nat} {ks : Value} {w w' : World} (h : OneText t lo hi ks w) (hs : Same 27 lo hi w w') : OneText t lo hi ks w' := by
  obtain ⟨kb, c, h1, h2, h3, h4⟩ := h
  exact ⟨kb, c, h1, h2, h3, h4.of (hs kb h2 h3 h4.typed)⟩
/-- what the row of the turned nodes is, as the thin package's -/
theorem turned_puts {T : List UInt8} {n : Nat} {css : List (Array Value)} {o : Value} {w w' : World} (hn : css.length = n) (h0 : 0 < n) (h1000 : n ≤ 1000) (hm : Made (fun _ => PutsTo T) Array.toList 33 16 w.heap.size css o w') : RowPuts (fun _ => T) n w.heap.size w'.heap.size o w' := by
  obtain ⟨hown, hq⟩ := hm
  obtain ⟨g, cap, rfl, g1, g2, g3⟩ := owns_rowQ hown (by omega)
  subst hn
  refine ⟨g, cap, css, rfl, rfl, h0, h1000, g1, g2, g3, ?_⟩
  intro i hi
  obtain ⟨lo, hi', k1, k2, k3, _⟩ := hq i hi
  exact k3.wide k1 k2
set_option maxHeartbeats 1000000 in
theorem gives_one (k : Int) (u mk t : ByteArray) (T : List UInt8) (ks : Value) (lo hi : Nat) (w : World) (hk : OneText t lo hi ks w) (ht : t.size ≤ 1000)
    (HF : ∀ (css : List (Array Value)) (kb c lo hi : Nat) (fr tl : Int) (tg : Bool) (w : World), RowAt 27 kb (css.flatMap Array.toList) w → css.length ≤ 1000 → hi ≤ w.heap.size → (∀ i (h : i < css.length), GivesTo (fun _ => PutsTo (escP htmlK htmlE t.data.toList)) lo hi css[i] w) →
      Calls Tryz.prog 6 #[.agg (spcG k u ⟨#[]⟩ 0 ⟨#[]⟩ false (.slice (some ⟨kb, 0, none⟩) css.length c) fr tl), .bool tg] w (TurnedRow (fun _ => PutsTo (escP htmlK htmlE t.data.toList)) (fun o => inlG k u o mk) css.length w))
    (HP : ∀ (lo hi : Nat) (ks : Value) (w : World), RowPuts (fun _ => escP htmlK htmlE t.data.toList) 1 lo hi ks w → PutsTo T lo hi (inlG k u ks mk) w) :
    GivesTo (fun _ => PutsTo T) lo hi (spcG k u ⟨#[]⟩ 0 ⟨#[]⟩ false ks 0 0) w := by
  refine ⟨_, _, _, _, _, _, _, _, _, rfl, ?_, ?_⟩
  · obtain ⟨kb, c, rfl, _⟩ := hk
    exact .inr ⟨_, _, _, rfl⟩
  intro fr tl tg w' hs hz hh
  obtain ⟨kb, c, rfl, h1, h2, h3⟩ := hk.same hs
  have := HF [plainC t] kb c lo hi fr tl tg w' (by simpa using h3) (by simp) hh (fun i hi => by
    have : i = 0 := by simpa using hi
    subst this
    exact gives_plain t _ _ _ ht)
  refine this.mono ?_
  rintro e w2 ⟨css, o, hl, rfl, hm, _, hb⟩
  have hr := turned_puts hl (by simp) (by simp) hm
  have hp := HP _ _ _ _ hr
  exact ⟨_, rfl, hp.1, hp.2.1, hp, hb⟩
theorem gives_emph (t : ByteArray) (ks : Value) (lo hi : Nat) (w : World) (hk : OneText t lo hi ks w) (ht : t.size ≤ 1000) :
    GivesTo (fun _ => PutsTo ([60, 101, 109, 62] ++ (sumT (fun _ => escP htmlK htmlE t.data.toList) 1 ++ [60, 47, 101, 109, 62]))) lo hi (spcG 24 ⟨#[]⟩ ⟨#[]⟩ 0 ⟨#[]⟩ false ks 0 0) w :=
  gives_one 24 ⟨#[]⟩ ⟨#[42]⟩ t _ ks lo hi w hk ht (fun css kb c lo hi fr tl tg w h1 h2 h3 h4 => by
    cases tg
    · exact given_emphF (fun _ _ => PutsTo _) (puts_sayable _) css kb c lo hi fr tl w h1 h2 h3 h4
    · exact given_emphT (fun _ _ => PutsTo _) (puts_sayable _) css kb c lo hi fr tl w h1 h2 h3 h4) (fun lo hi ks w h => put_emph _ 1 lo hi _ ks w h)
theorem gives_strong (t : ByteArray) (ks : Value) (lo hi : Nat) (w : World) (hk : OneText t lo hi ks w) (ht : t.size ≤ 1000) :
    GivesTo (fun _ => PutsTo ([60, 115, 116, 114, 111, 110, 103, 62] ++ (sumT (fun _ => escP htmlK htmlE t.data.toList) 1 ++ [60, 47, 115, 116, 114, 111, 110, 103, 62]))) lo hi (spcG 25 ⟨#[]⟩ ⟨#[]⟩ 0 ⟨#[]⟩ false ks 0 0) w :=
  gives_one 25 ⟨#[]⟩ ⟨#[42, 42]⟩ t _ ks lo hi w hk ht (fun css kb c lo hi fr tl tg w h1 h2 h3 h4 => by
    cases tg
    · exact given_strongF (fun _ _ => PutsTo _) (puts_sayable _) css kb c lo hi fr tl w h1 h2 h3 h4
    · exact given_strongT (fun _ _ => PutsTo _) (puts_sayable _) css kb c lo hi fr tl w h1 h2 h3 h4) (fun lo hi ks w h => put_strong _ 1 lo hi _ ks w h)
theorem gives_link (u t : ByteArray) (ks : Value) (lo hi : Nat) (w : World) (hk : OneText t lo hi ks w) (hu : u.size ≤ 1000) (ht : t.size ≤ 1000) :
    GivesTo (fun _ => PutsTo (aH u (sumT (fun _ => escP htmlK htmlE t.data.toList) 1))) lo hi (spcG 27 u ⟨#[]⟩ 0 ⟨#[]⟩ false ks 0 0) w :=
  gives_one 27 u ⟨#[]⟩ t _ ks lo hi w hk ht (fun css kb c lo hi fr tl tg w h1 h2 h3 h4 => by
    cases tg
    · exact given_zeroF (fun _ _ => PutsTo _) (puts_sayable _) css kb c lo hi 27 u ⟨#[]⟩ 0 ⟨#[]⟩ false rfl rfl rfl rfl rfl rfl fr tl w h1 h2 h3 h4
    · exact given_zeroT (fun _ _ => PutsTo _) (puts_sayable _) css kb c lo hi 27 u ⟨#[]⟩ 0 ⟨#[]⟩ false rfl rfl rfl rfl rfl rfl rfl fr tl w h1 h2 h3 h4) (fun lo hi ks w h => put_link u _ 1 lo hi ks w h hu)
theorem InlP.gives {lo hi : Nat} {x : Array Value × Nat} {w : World} (h : InlP lo hi x w) (hx : x.2 ≤ 1000) : ∃ T : List UInt8, T.length ≤ 6 * x.2 + 60 ∧ GivesTo (fun _ => PutsTo T) lo hi x.1 w := by
  rcases h with ⟨t, h1, h2⟩ | ⟨k, t, ti, nu, ch, lb, ks, fr, tl, h1, h2, h3, T, h4, h5⟩
  · refine ⟨_, ?_, h2 ▸ gives_plain t lo hi w (by omega)⟩
    have := escP_len (K := htmlK) (E := htmlE) (n := 6) (by omega) (fun c _ => htmlE_len c) t.data.toList
    simp at this; omega
  · exact ⟨T, h4, h5⟩
end Go.Proofs.YtnocllocnoodnaaGreatDoor
