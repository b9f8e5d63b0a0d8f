/- The reference's unescaping, where no number of a character begins. -/
import Derived.Test.YtigeaoijcjidbaaDoorEntitySpec
import Derived.Test.YtigeaoijcjidbaaDoorUnesc
namespace Go.Proofs.YtigeaoijcjidbaaDoor
open Go.RowKit
theorem named_short (n : List UInt8) : (namedOf n).length ≤ 1 := by
  unfold namedOf
  split
  · simp
  · split
    · simp
    · split
      · simp
      · split <;> simp
theorem entS_short {l r : List UInt8} {n : Nat} (h : entS l = some (r, n)) : r.length ≤ 1 ∧ 0 < n ∧ n ≤ l.length := by
  unfold entS at h
  split at h
  · rename_i hc
    simp only [Option.some.injEq, Prod.mk.injEq] at h
    obtain ⟨rfl, rfl⟩ := h
    refine ⟨named_short _, by omega, ?_⟩
    rcases Nat.lt_or_ge (alnN l) l.length with h' | h'
    · exact h'
    · rw [List.getElem?_eq_none h'] at hc; cases hc.2.1
  · cases h
theorem piece_one (s : ByteArray) (k : Nat) (h : k < s.size) : (s.extract k (k + 1)).data.toList = [s[k]] := by
  rw [Lib.extract_data, drop_cons s k h, Nat.add_sub_cancel_left]; rfl
theorem data_append (a b : ByteArray) : (a ++ b).data.toList = a.data.toList ++ b.data.toList := by
  rw [ByteArray.data_append, Array.toList_append]
theorem bytes_size (l : List UInt8) : (⟨l.toArray⟩ : ByteArray).size = l.length := rfl
theorem text_size (a : ByteArray) : a.data.toList.length = a.size := by simp
theorem NoNum.entTail {s : ByteArray} {k : Nat} {r : List UInt8} {n : Nat} (hk : k < s.size) (h : entS (s.data.toList.drop (k + 1)) = some (r, n)) : k + 1 + n ≤ s.size := by
  have := (entS_short h).2.2
  rw [List.length_drop, text_size] at this
  have := (entS_short h).2.1
  omega
set_option maxHeartbeats 4000000 in
set_option maxRecDepth 100000 in
theorem spec_Unescape (s : ByteArray) (w : World) (hs : s.size ≤ 1000) (hn : NoNum s) : Calls Tryd.prog 24 #[.string s] w fun e w' => e = .returned (.string ⟨(rp entS 0 s.data.toList).toArray⟩) ∧ w = w' := by
  obtain ⟨V, hV⟩ : ∃ V, V = rp entS 0 s.data.toList := ⟨_, rfl⟩
  have HV := Lib.hid (show V = rpAt entS s 0 from hV)
  rw [← hV]
  clear hV
  have HN := Lib.hid hn
  clear hn
  go_enter Tryd.func24, Tryd.ntmps24
  go_wp2_with (fail)
  go_loopg [3, 4] s.size (fun g v j wx => ∃ (k : Nat) (t : ByteArray), k + g = s.size ∧ v = .string t ∧ j = .int .i64 k ∧ t.size ≤ 3 * k ∧ Hid (t.data.toList ++ rpAt entS s k = V) ∧ w = wx)
  case atStart => exact ⟨0, ⟨#[]⟩, by omega, rfl, rfl, by decide, Lib.hid (by rw [HV.out]; rfl), rfl⟩
  case round =>
    obtain ⟨k, t, hkg, rfl, rfl, ht, HR, rfl⟩ := hrel
    by_cases hk : k < s.size
    · go_upto_region 4 with (fail)
      go_cut [28] from 11 to 28 (fun v wx => v = .bool (escAt s k) ∧ w = wx)
      case first =>
        clear HR HV HN
        go_wp2_with (go_at_call 15; refine (spec_IsPunct _ _).mono ?_; rintro e w' ⟨rfl, rfl⟩)
        all_goals (go_meet; refine ⟨congrArg Value.bool ?_, rfl⟩; go_light; first | exact (escAt_is hk ‹_› (by omega)).symm | exact (escAt_end (by omega)).symm | exact (escAt_not hk ‹_›).symm)
      case rest =>
        obtain ⟨rfl, rfl⟩ := hcut
        cases hE : escAt s k with
        | true =>
          have hlt := escAt_lt hE
          have HY : Hid (rpAt entS s k = (s[k + 1]'hlt) :: rpAt entS s (k + 2)) := Lib.hid (rpAt_esc (ent := entS) hE)
          have HP : Hid ((s.extract (k + 1) (k + 2)).data.toList = [s[k + 1]'hlt]) := Lib.hid (piece_one s (k + 1) hlt)
          have hps : (s.extract (k + 1) (k + 2)).size = 1 := by rw [ByteArray.size_extract]; omega
          clear hE
          go_wp2_with (fail)
          go_roundg (s.size - (k + 2))
          case measure => omega
          case rel => exact ⟨k + 2, t ++ s.extract (k + 1) (k + 2), by omega, rfl, by go_num, by rw [ByteArray.size_append, hps]; omega, Lib.hid (by rw [data_append, HP.out, ← HR.out, HY.out]; simp), rfl⟩
        | false =>
          have HZ := Lib.hid (spec_Entity s k w hs hk HN.out)
          have HP := Lib.hid (piece_one s k hk)
          have hps : (s.extract k (k + 1)).size = 1 := by rw [ByteArray.size_extract]; omega
          by_cases ha : (s[k].toNat : Int) = 38
          · cases he : entS (s.data.toList.drop (k + 1)) with
            | some q =>
              obtain ⟨r, n⟩ := q
              have hsh := entS_short he
              have hen := NoNum.entTail hk he
              have HY : Hid (rpAt entS s k = r ++ rpAt entS s (k + 1 + n)) := Lib.hid (rpAt_amp (ent := entS) hk ha he)
              have hres : entRes s k = .tuple #[.string ⟨r.toArray⟩, .int .i64 ((n : Int) + 1)] := by
                unfold entRes; rw [atB_of hk, ha, he]; rfl
              rw [hres] at HZ
              have hrs : (⟨r.toArray⟩ : ByteArray).size ≤ 1 := hsh.1
              have HD : Hid ((⟨r.toArray⟩ : ByteArray).data.toList = r) := Lib.hid rfl
              obtain ⟨hn0, hsh2⟩ := hsh.2
              clear he hE ha hres hsh
              generalize (⟨r.toArray⟩ : ByteArray) = R at *
              go_wp2_with (go_at_call 29; refine HZ.out.mono ?_; rintro e w' ⟨rfl, rfl⟩)
              go_roundg (s.size - (k + 1 + n))
              case measure => omega
              case rel => exact ⟨k + 1 + n, t ++ R, by omega, rfl, by go_num, by rw [ByteArray.size_append]; omega, Lib.hid (by rw [data_append, HD.out, ← HR.out, HY.out]; simp), rfl⟩
            | none =>
              have HY : Hid (rpAt entS s k = s[k] :: rpAt entS s (k + 1)) := Lib.hid (rpAt_amp_no (ent := entS) hk ha he)
              have hres : entRes s k = .tuple #[.string ⟨#[]⟩, .int .i64 0] := by
                unfold entRes; rw [atB_of hk, ha, he]; rfl
              rw [hres] at HZ
              clear he hE ha hres
              go_wp2_with (go_at_call 29; refine HZ.out.mono ?_; rintro e w' ⟨rfl, rfl⟩)
              go_roundg (s.size - (k + 1))
              case measure => omega
              case rel => exact ⟨k + 1, t ++ s.extract k (k + 1), by omega, rfl, by go_num, by rw [ByteArray.size_append, hps]; omega, Lib.hid (by rw [data_append, HP.out, ← HR.out, HY.out]; simp), rfl⟩
          · have HY : Hid (rpAt entS s k = s[k] :: rpAt entS s (k + 1)) := Lib.hid (rpAt_other (ent := entS) hk hE ha)
            have hres : entRes s k = .tuple #[.string ⟨#[]⟩, .int .i64 0] := by
              unfold entRes; rw [atB_of hk, beq_eq_false_iff_ne.2 ha]; rfl
            rw [hres] at HZ
            clear hE ha hres
            go_wp2_with (go_at_call 29; refine HZ.out.mono ?_; rintro e w' ⟨rfl, rfl⟩)
            go_roundg (s.size - (k + 1))
            case measure => omega
            case rel => exact ⟨k + 1, t ++ s.extract k (k + 1), by omega, rfl, by go_num, by rw [ByteArray.size_append, hps]; omega, Lib.hid (by rw [data_append, HP.out, ← HR.out, HY.out]; simp), rfl⟩
    · have HE : Hid (t.data.toList = V) := Lib.hid (by rw [← HR.out, rpAt_end (by omega)]; simp)
      go_wp2_with (fail)
      go_ret
      exact ⟨ret_str (by rw [← HE.out]), rfl⟩
end Go.Proofs.YtigeaoijcjidbaaDoor
