/- The package's parts of raw HTML between two marks; its door to processing instructions. -/
import Derived.Test.YtpdpkggojlpklaaGreatPrefix
import Derived.Test.YtpdpkggojlpklaaGreatTag
namespace Go.Proofs.YtpdpkggojlpklaaGreat
open Go.RowKit
/-- a part of raw HTML was read from i to n: a block of the call's own holds its text -/
def TagMade (s : ByteArray) (i n : Nat) (w : World) (e : Ending) (w' : World) : Prop :=
  ∃ b : Nat, e = .returned (.tuple #[.iface 70 (.pointer (some ⟨b, 0, none⟩)), .int .i64 n, .bool true]) ∧ b < w'.heap.size ∧ w'.cell? ⟨b, 0, none⟩ = some (.string (s.extract i n)) ∧ Below w.heap.size w w'
def NoTag (w : World) (e : Ending) (w' : World) : Prop := e = .returned (.tuple #[.nilIface, .int .i64 0, .bool false]) ∧ Below w.heap.size w w'
/-- what the package reads between two marks -/
def markRes (s p q : ByteArray) (i : Nat) (w : World) (e : Ending) (w' : World) : Prop :=
  if untilOf (s.extract i s.size) p q = 0 then NoTag w e w' else TagMade s i (i + untilOf (s.extract i s.size) p q) w e w'
theorem tail_dataM (s : ByteArray) (i : Nat) : (s.extract i s.size).data.toList = s.data.toList.drop i := by
  rw [Lib.extract_data, List.take_of_length_le (by simp)]
set_option maxHeartbeats 1000000 in
theorem md_parseHTMLMarker (s p q : ByteArray) (i : Nat) (w : World) (hs : s.size ≤ 1000) (hi : i ≤ s.size) (hp : p.size ≤ 100) (hq : q.size ≤ 100) (hq0 : 0 < q.size) :
    Calls Tryz.prog 27 #[.string s, .int .i64 i, .string p, .string q] w (markRes s p q i w) := by
  have HP := Lib.hid (fun w => strings_HasPrefix (s.extract i s.size) p w)
  cases hh : hasPre (s.extract i s.size) p with
  | false =>
    have hu : untilOf (s.extract i s.size) p q = 0 := by unfold untilOf; rw [hh]; rfl
    rw [hh] at HP
    have goal : Calls Tryz.prog 27 #[.string s, .int .i64 i, .string p, .string q] w (NoTag w) := by
      clear hu hh
      go_enter Tryz.func27, Tryz.ntmps27
      go_wp2_with (go_at_call 6; refine (HP.out _).mono ?_; rintro e w' ⟨rfl, rfl⟩)
      go_ret3
      exact ⟨rfl, Below.refl _ _⟩
    refine goal.mono ?_
    intro e w' h
    unfold markRes; rw [if_pos hu]; exact h
  | true =>
    have hps : p.size ≤ s.size - i := by
      have h1 := hh
      unfold hasPre at h1
      have := (List.isPrefixOf_iff_prefix.1 h1).length_le
      simp at this; omega
    rw [hh] at HP
    have HI := Lib.hid (fun w => md_zzIndex (s.extract (i + p.size) s.size) q w (by rw [ByteArray.size_extract]; unfold maxLen; omega))
    have hd : (s.extract (i + p.size) s.size).data.toList = (s.extract i s.size).data.toList.drop p.size := by
      rw [tail_dataM, tail_dataM, List.drop_drop]
    rw [hd] at HI
    cases hf : findSub q.data.toList ((s.extract i s.size).data.toList.drop p.size) with
    | none =>
      have hu : untilOf (s.extract i s.size) p q = 0 := by unfold untilOf; rw [hh, hf]; rfl
      rw [hf] at HI
      have goal : Calls Tryz.prog 27 #[.string s, .int .i64 i, .string p, .string q] w (NoTag w) := by
        clear hu hh hf hd
        go_enter Tryz.func27, Tryz.ntmps27
        go_wp2_with (first
          | (go_at_call 6; refine (HP.out _).mono ?_; rintro e w' ⟨rfl, rfl⟩)
          | (go_at_call 34; refine (HI.out _).mono ?_; unfold idxInt; rintro e w' ⟨rfl, rfl⟩))
        go_ret3
        exact ⟨rfl, Below.refl _ _⟩
      refine goal.mono ?_
      intro e w' h
      unfold markRes; rw [if_pos hu]; exact h
    | some j =>
      have hl := (findSub_lt hf).1
      have hu : untilOf (s.extract i s.size) p q = p.size + j + q.size := by unfold untilOf; rw [hh, hf]; rfl
      have hjl : i + (p.size + j + q.size) ≤ s.size := by
        simp at hl; omega
      rw [hf] at HI
      have goal : Calls Tryz.prog 27 #[.string s, .int .i64 i, .string p, .string q] w (TagMade s i (i + p.size + j + q.size) w) := by
        clear hu hh hf hd hl
        go_enter Tryz.func27, Tryz.ntmps27
        go_wp2_with (first
          | (go_at_call 6; refine (HP.out _).mono ?_; rintro e w' ⟨rfl, rfl⟩)
          | (go_at_call 34; refine (HI.out _).mono ?_; unfold idxInt; rintro e w' ⟨rfl, rfl⟩))
        go_ret3
        refine ⟨w.heap.size, ?_, by simp, by rw [World.cell?_alloc_mark]; rfl, (Below.refl _ _).alloc (Nat.le_refl _) _⟩
        have e : ((i : Int) + p.size + j + q.size) = ((i + p.size + j + q.size : Nat) : Int) := by omega
        rw [← e]
        rfl
      refine goal.mono ?_
      intro e w' h
      unfold markRes; rw [if_neg (by rw [hu]; omega), hu, show i + (p.size + j + q.size) = i + p.size + j + q.size by omega]; exact h
/-- the marks of a processing instruction -/
def piA : ByteArray := ⟨#[60, 63]⟩
def piB : ByteArray := ⟨#[63, 62]⟩
end Go.Proofs.YtpdpkggojlpklaaGreat
