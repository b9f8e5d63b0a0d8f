/- The laws' word 'escaped', the package's unescaping of a text, its doors. -/
import Derived.Test.YtpdpkggojlpklaaDoorEntity
import Derived.Test.YtpdpkggojlpklaaDoorBuilder
import Derived.Test.YtpdpkggojlpklaaDoorBytes
import Derived.Test.YtpdpkggojlpklaaDoorSearch
import Derived.Deep.LoopGhost
import Derived.Deep.DeepCutAuto
import Derived.Deep.Light
namespace Go.Proofs.YtpdpkggojlpklaaDoor
open Go.RowKit
theorem bel_step {B : Nat} {w a b : World} (h : Below B w a) (k : Below B a b) : Below B w b := h.trans k
theorem escL_append : ∀ l m : List UInt8, escL (l ++ m) = escL l ++ escL m
  | [], _ => rfl
  | c :: l, m => by
    rw [List.cons_append, escL, escL, escL_append l m]; split <;> rfl
theorem escL_take (s : ByteArray) (k : Nat) (h : k < s.size) : escL (s.data.toList.take (k + 1)) = if punctB (s[k].toNat : Int) then escL (s.data.toList.take k) ++ [92] ++ [s[k]] else escL (s.data.toList.take k) ++ [s[k]] := by
  rw [take_snoc s k h, escL_append, escL, escL]; split <;> simp
theorem escL_length : ∀ l : List UInt8, (escL l).length ≤ 2 * l.length
  | [] => Nat.le_refl _
  | c :: l => by have := escL_length l; rw [escL]; split <;> simp <;> omega
def nsemi (c : Int) : Bool := c != 59
/-- the bytes up to the first semicolon behind a place -/
theorem entP_at (s : ByteArray) (k : Nat) (h : k < s.size) (hc : (s[k].toNat : Int) = 38) :
    entP (s.data.toList.drop (k + 1)) = if scan (nsemi) s.data.toList (k + 1) < s.size then (look 0 (s.extract k (scan (nsemi) s.data.toList (k + 1) + 1)).data.toList).map (fun r => (r, scan (nsemi) s.data.toList (k + 1) - k)) else none := by
  have hj : scan (nsemi) s.data.toList (k + 1) = k + 1 + ((s.data.toList.drop (k + 1)).takeWhile fun c => (c.toNat : Int) != 59).length := rfl
  unfold entP
  simp only [List.length_drop]
  rw [hj]
  generalize ((s.data.toList.drop (k + 1)).takeWhile fun c => (c.toNat : Int) != 59).length = j
  have hl : s.data.toList.length = s.size := by simp
  rw [hl]
  have e1 : (j < s.size - (k + 1)) = (k + 1 + j < s.size) := by apply propext; omega
  have e2 : (s.extract k (k + 1 + j + 1)).data.toList = 38 :: (s.data.toList.drop (k + 1)).take (j + 1) := by
    rw [Lib.extract_data, drop_cons s k h, show k + 1 + j + 1 - k = (j + 1) + 1 by omega, List.take_succ_cons, u8_of (n := 38) hc (by decide)]
    rfl
  rw [e2]
  by_cases hlt : k + 1 + j < s.size
  · rw [if_pos (e1 ▸ hlt), if_pos hlt, show k + 1 + j - k = j + 1 by omega]
  · rw [if_neg (e1 ▸ hlt), if_neg hlt]
theorem escAt_is {s : ByteArray} {k : Nat} (hk : k < s.size) (h1 : (s[k].toNat : Int) = 92) (h2 : k + 1 < s.size) : escAt s k = punctB (s[k + 1].toNat : Int) := by
  rw [escAt, atB_of hk, atB_of h2, h1]; rfl
theorem escAt_end {s : ByteArray} {k : Nat} (h2 : s.size ≤ k + 1) : escAt s k = false := by
  rw [escAt, atB_off (k := k + 1) (by omega), Bool.and_false]
theorem escAt_not {s : ByteArray} {k : Nat} (hk : k < s.size) (h1 : ¬ (s[k].toNat : Int) = 92) : escAt s k = false := by
  rw [escAt, atB_of hk, beq_eq_false_iff_ne.2 h1, Bool.false_and]
set_option maxHeartbeats 4000000 in
set_option maxRecDepth 100000 in
theorem md_Replace (s : ByteArray) (w : World) (hs : s.size ≤ 2000) (ht : TableAt w) (h0 : 4 < w.heap.size) :
    Calls Tryd.prog 38 #[.agg #[], .string s] w fun e w' => e = .returned (.string ⟨(rp entP 0 s.data.toList).toArray⟩) ∧ Below w.heap.size w w' := by
  obtain ⟨V, hV⟩ : ∃ V, V = rp entP 0 s.data.toList := ⟨_, rfl⟩
  have HV := Lib.hid (show V = rpAt entP s 0 from hV)
  rw [← hV]
  clear hV
  have HT := Lib.hid ht; clear ht
  go_enter Tryd.func38, Tryd.ntmps38
  go_wp2_with (fail)
  have hbn : Bld w.heap.size (w.heap.size + 1) [] ((w.alloc (.cells #[] 89)).alloc (.cells #[.pointer none, .slice none 0 0] 92)) := by
    have := Bld.new (w.alloc (.cells #[] 89))
    rw [World.size_alloc] at this
    exact this.low (by omega)
  have hw0 : Below w.heap.size w ((w.alloc (.cells #[] 89)).alloc (.cells #[.pointer none, .slice none 0 0] 92)) := ((Below.refl _ _).alloc (Nat.le_refl _) _).alloc (by simp) _
  go_loopg [6] s.size (fun g j wx => ∃ (k : Nat) (L : List UInt8), k + g = s.size ∧ j = .int .i64 k ∧ L.length ≤ 3 * k ∧ Bld w.heap.size (w.heap.size + 1) L wx ∧ Below w.heap.size w wx ∧ Hid (L ++ rpAt entP s k = V))
  case atStart => exact ⟨0, [], by omega, rfl, by simp, hbn, hw0, Lib.hid (by rw [HV.out]; rfl)⟩
  case round =>
    obtain ⟨k, L, hkg, rfl, hL, hbl, hbel, HR⟩ := hrel
    have hsz := hbel.size
    clear hbn hw0
    by_cases hk : k < s.size
    · have HTr := Lib.hid (HT.out.below hbel h0)
      go_upto_region 6 with (fail)
      go_cut [20] from 21 to 38 (fun v wx => v = .bool (escAt s k) ∧ wr = wx)
      case first =>
        clear HR HV HT HTr hbl hbel
        go_wp2_with (go_at_call 44; refine (md_isPunct _ _).mono ?_; rintro e w' ⟨rfl, rfl⟩)
        all_goals (go_meet; refine ⟨congrArg Value.bool ?_, rfl⟩; go_light; first | exact (escAt_is hk ‹_› (by omega)).symm | exact (escAt_end (by omega)).symm | exact (escAt_not hk ‹_›).symm)
      case rest =>
        obtain ⟨rfl, rfl⟩ := hcut
        cases hE : escAt s k with
        | true =>
          have hlt := escAt_lt hE
          have HN : Hid (rpAt entP s k = (s[k + 1]'hlt) :: rpAt entP s (k + 2)) := Lib.hid (rpAt_esc (ent := entP) hE)
          have H2 := Lib.hid (bld_byte _ _ _ (s[k + 1]'hlt) wr hbl (by omega) hsz)
          clear hE hbl
          go_wp2_with (go_at_call 40; refine H2.out.mono ?_; rintro e w2 ⟨rfl, hb2, hl2⟩; replace hbel := hbel.trans hl2)
          go_roundg (s.size - (k + 2))
          case measure => omega
          case rel => exact ⟨k + 2, L ++ [s[k + 1]'hlt], by omega, by go_num, by simp; omega, hb2, hbel, Lib.hid (by rw [← HR.out, HN.out]; simp)⟩
        | false =>
          have H2 := Lib.hid (bld_byte _ _ _ s[k] wr hbl (by omega) hsz)
          by_cases ha : (s[k].toNat : Int) = 38
          · have hab : ((s[k].toNat : Int) == 38) = true := beq_iff_eq.2 ha
            have HN := Lib.hid (fun (r : List UInt8) (n : Nat) he => rpAt_amp (ent := entP) (r := r) (n := n) hk ha he)
            have HO := Lib.hid (rpAt_amp_no (ent := entP) hk ha)
            have HA := Lib.hid (entP_at s k hk ha)
            clear hE ha
            have HBl := Lib.hid hbl
            clear hbl
            go_wp2_with (fail)
            go_loopg [7] (s.size - (k + 1)) (fun g j wx => ∃ m : Nat, k + 1 ≤ m ∧ m + g = s.size ∧ j = .int .i64 m ∧ Hid (scan nsemi s.data.toList m = scan nsemi s.data.toList (k + 1)) ∧ wr = wx)
            case atStart => exact ⟨k + 1, Nat.le_refl _, by omega, by go_num, Lib.hid rfl, rfl⟩
            case round =>
              obtain ⟨m, hm, hmg, rfl, HM, rfl⟩ := hrel
              go_upto_region 11 with (fail)
              go_cut [61] from 52 to 61 (fun v wx => v = .bool (atB nsemi s m) ∧ wr = wx)
              case first =>
                go_wp2_with (fail)
                all_goals (go_meet; refine ⟨congrArg Value.bool ?_, rfl⟩; go_light; first | (simp [atB, nsemi, *]; done) | (simp_all [atB, nsemi]; done))
              case rest =>
                obtain ⟨rfl, rfl⟩ := hcut
                cases hB : atB nsemi s m with
                | true =>
                  have hlt := atB_lt hB
                  have HY := Lib.hid (scan_yes hB)
                  clear hB
                  go_wp2
                  go_roundg (s.size - (m + 1))
                  case measure => omega
                  case rel => exact ⟨m + 1, by omega, by omega, by go_num, Lib.hid (HY.out.symm.trans HM.out), rfl⟩
                | false =>
                  have HS := Lib.hid (HM.out.symm.trans (scan_no hB))
                  clear hB
                  rw [HS.out] at HA
                  by_cases hms : m < s.size
                  · rw [if_pos hms] at HA
                    have HL := Lib.hid (fun w (ht : TableAt w) => md_htmlEntity (s.extract k (m + 1)) w ht)
                    cases hlk : look 0 (s.extract k (m + 1)).data.toList with
                    | some r =>
                      rw [hlk] at HL HA
                      have hr := look_short hlk
                      clear hlk
                      have HN2 := Lib.hid (HN.out _ _ HA.out)
                      have H3 := Lib.hid (bld_string _ _ _ ⟨r.toArray⟩ wr HBl.out (by omega) (by show r.length ≤ _; omega) hsz)
                      go_wp2_with (first
                        | (go_at_call 45; refine (HL.out _ HTr.out).mono ?_; unfold lookRes; rintro e w' ⟨rfl, rfl⟩)
                        | (go_at_call 46; refine H3.out.mono ?_; rintro e w2 ⟨rfl, hb2, hl2⟩; replace hbel := hbel.trans hl2))
                      go_roundg (s.size - (m + 1))
                      case measure => omega
                      case rel => exact ⟨m + 1, L ++ r, by omega, by go_num, by simp; omega, hb2, hbel, Lib.hid (by rw [← HR.out, HN2.out, show k + 1 + (m - k) = m + 1 by omega]; simp)⟩
                    | none =>
                      rw [hlk] at HL HA
                      clear hlk
                      have HN2 := Lib.hid (HO.out HA.out)
                      go_wp2_with (first
                        | (go_at_call 45; refine (HL.out _ HTr.out).mono ?_; unfold lookRes; rintro e w' ⟨rfl, rfl⟩)
                        | (go_at_call 40; refine H2.out.mono ?_; rintro e w2 ⟨rfl, hb2, hl2⟩; replace hbel := hbel.trans hl2))
                      go_roundg (s.size - (k + 1))
                      case measure => omega
                      case rel => exact ⟨k + 1, L ++ [s[k]], by omega, by go_num, by simp; omega, hb2, hbel, Lib.hid (by rw [← HR.out, HN2.out]; simp)⟩
                  · rw [if_neg hms] at HA
                    have HN2 := Lib.hid (HO.out HA.out)
                    go_wp2_with (go_at_call 40; refine H2.out.mono ?_; rintro e w2 ⟨rfl, hb2, hl2⟩; replace hbel := hbel.trans hl2)
                    go_roundg (s.size - (k + 1))
                    case measure => omega
                    case rel => exact ⟨k + 1, L ++ [s[k]], by omega, by go_num, by simp; omega, hb2, hbel, Lib.hid (by rw [← HR.out, HN2.out]; simp)⟩
          · have hab : ((s[k].toNat : Int) == 38) = false := beq_eq_false_iff_ne.2 ha
            have HN := Lib.hid (rpAt_other (ent := entP) hk hE ha)
            clear hE ha hbl
            go_wp2_with (go_at_call 40; refine H2.out.mono ?_; rintro e w2 ⟨rfl, hb2, hl2⟩; replace hbel := hbel.trans hl2)
            go_roundg (s.size - (k + 1))
            case measure => omega
            case rel => exact ⟨k + 1, L ++ [s[k]], by omega, by go_num, by simp; omega, hb2, hbel, Lib.hid (by rw [← HR.out, HN.out]; simp)⟩
    · have HE : Hid (L = V) := Lib.hid (by rw [← HR.out, rpAt_end (by omega)]; simp)
      have H1 := Lib.hid (bld_text _ _ _ wr hbl hsz)
      go_wp2_with (go_at_call 41; refine H1.out.mono ?_; rintro e w2 ⟨rfl, hl2⟩; replace hbel := hbel.trans hl2)
      go_ret
      exact ⟨ret_str (by rw [HE.out]), hbel⟩
theorem findSub_one {c : UInt8} : ∀ {l : List UInt8}, (findSub [c] l).isSome = true ↔ c ∈ l
  | [] => by simp [findSub_short]
  | d :: l => by
    cases h : ([c] : List UInt8).isPrefixOf (d :: l) with
    | true =>
      rw [findSub_yes h]
      simp only [List.isPrefixOf, Bool.and_true, beq_iff_eq] at h
      simp [h]
    | false =>
      rw [findSub_no h, Option.isSome_map, findSub_one]
      simp only [List.isPrefixOf, Bool.and_true, beq_eq_false_iff_ne] at h
      simp [h]
theorem md_mdUnescape (s : ByteArray) (w : World) (hs : s.size ≤ 2000) (ht : TableAt w) (h0 : 4 < w.heap.size) :
    Calls Tryd.prog 37 #[.string s] w fun e w' => e = .returned (.string ⟨(rp entP 0 s.data.toList).toArray⟩) ∧ Below w.heap.size w w' := by
  have HR := Lib.hid (md_Replace s w hs ht h0)
  have HC := Lib.hid (fun (sub : ByteArray) (w : World) (h : sub.size = 1) => md_zzContains s sub w (by unfold maxLen; omega))
  have h1 : (findSub [92] s.data.toList).isSome = true ↔ (92 : UInt8) ∈ s.data.toList := findSub_one
  have h2 : (findSub [38] s.data.toList).isSome = true ↔ (38 : UInt8) ∈ s.data.toList := findSub_one
  have hpl : (findSub [92] s.data.toList).isSome = false → (findSub [38] s.data.toList).isSome = false → rp entP 0 s.data.toList = s.data.toList := fun e1 e2 =>
    rp_plain _ (fun h => by rw [h1.2 h] at e1; cases e1) (fun h => by rw [h2.2 h] at e2; cases e2)
  have HP := Lib.hid hpl
  clear h1 h2 hpl ht
  obtain ⟨V, hV⟩ : ∃ V, V = rp entP 0 s.data.toList := ⟨_, rfl⟩
  rw [← hV] at HP HR ⊢
  clear hV
  go_enter Tryd.func37, Tryd.ntmps37
  cases e1 : (findSub (⟨#[92]⟩ : ByteArray).data.toList s.data.toList).isSome with
  | true =>
    go_wp2_with (first
      | (go_at_call 39; refine (HC.out _ _ rfl).mono ?_; rintro e w' ⟨rfl, rfl⟩; simp only [e1])
      | (go_at_call 38; refine HR.out.mono ?_; rintro e w' ⟨rfl, hbel⟩))
    go_ret
    exact ⟨rfl, hbel⟩
  | false =>
    cases e2 : (findSub (⟨#[38]⟩ : ByteArray).data.toList s.data.toList).isSome with
    | true =>
      go_wp2_with (first
        | (go_at_call 39; refine (HC.out _ _ rfl).mono ?_; rintro e w' ⟨rfl, rfl⟩; simp only [e1, e2])
        | (go_at_call 38; refine HR.out.mono ?_; rintro e w' ⟨rfl, hbel⟩))
      go_ret
      exact ⟨rfl, hbel⟩
    | false =>
      have HE := Lib.hid (HP.out e1 e2)
      go_wp2_with (go_at_call 39; refine (HC.out _ _ rfl).mono ?_; rintro e w' ⟨rfl, rfl⟩; simp only [e1, e2])
      go_ret
      exact ⟨ret_str (by rw [HE.out]), Below.refl _ _⟩
end Go.Proofs.YtpdpkggojlpklaaDoor
