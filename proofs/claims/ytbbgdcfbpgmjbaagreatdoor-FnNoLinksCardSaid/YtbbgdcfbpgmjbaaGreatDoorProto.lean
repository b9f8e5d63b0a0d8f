/- The package's reading of an address that begins with 'http://'; a text in which no address can begin. -/
import Derived.Test.YtbbgdcfbpgmjbaaGreatDoorHttp
namespace Go.Proofs.YtbbgdcfbpgmjbaaGreatDoor
open Go.RowKit
/-- 'http://a.b ' stands at place i of the text, which ends there -/
structure UrlAt (T : ByteArray) (i : Nat) : Prop where
  size : T.size = i + 11
  short : T.size ≤ 1000
  dom : DomAt T (i + 7)
  c0 : ∀ h : i < T.size, T[i] = 104
  no : hasPre (T.extract i (i + 11)) ⟨#[104, 116, 116, 112, 115, 58, 47, 47]⟩ = false
  yes : hasPre (T.extract i (i + 11)) ⟨#[104, 116, 116, 112, 58, 47, 47]⟩ = true
/-- what is found there -/
def UrlFound (T : ByteArray) (i : Nat) : World → Ending → World → Prop := LinkFound (T.extract i (i + 7) ++ T.extract (i + 7) (i + 10)) (T.extract i (i + 10)) (T.extract (i + 10) (i + 11))
set_option maxHeartbeats 1000000 in
theorem md_parseAutoProto (v : Value) (T : ByteArray) (i b : Nat) (w : World) (hT : UrlAt T i) (hb : w.cell? ⟨b, 0, none⟩ = some (.string T)) (hc : w.cell? ⟨b, 1, none⟩ = some (.int .i64 0)) :
    Calls Tryz.prog 24 #[v, .string T, .int .i64 i, .pointer (some ⟨b, 0, none⟩)] w (UrlFound T i w) := by
  have hs := hT.size
  have hsh := hT.short
  have e0 := hT.c0 (by omega)
  have HP := Lib.hid (fun p w => strings_HasPrefix (T.extract i (i + 11)) p w)
  have q1 := hT.no
  have q2 := hT.yes
  have HH := Lib.hid (md_parseAutoHTTP v (T.extract i (i + 7)) T i (i + 7) b w hT.dom (by omega) (by simp; omega) hb hc)
  have hne : T.toList.isEmpty = false := by
    rw [Lib.toList_data]
    cases h : T.data.toList with
    | nil =>
      have h1 : T.data.toList.length = T.size := by simp
      have h2 : T.size = 0 := h1.symm.trans (congrArg List.length h)
      omega
    | cons _ _ => rfl
  clear hT hb hc
  unfold UrlFound
  unfold LinkFound at *
  go_enter Tryz.func24, Tryz.ntmps24
  go_wp2_with (first
    | (go_at_call 28; refine (HP.out _ _).mono ?_; rintro e w2 ⟨rfl, rfl⟩)
    | (go_at_call 29; refine HH.out.mono ?_; rintro e w2 ⟨k, g, h, rfl, h1, h2, h3, h4, h5⟩))
  exact bodyPost_ret (v := .tuple #[.pointer (some ⟨k, 0, none⟩), .string (T.extract (i + 10) (i + 11)), .bool true]) (by simp [results, go_sem]) rfl ⟨k, g, h, rfl, h1, h2, h3, h4, h5⟩
theorem md_skip (T : ByteArray) (j b : Nat) (w : World) (hs : T.size ≤ 1000) (hj : j ≤ T.size) (hb : w.heap[b]? = some (.cells #[.string T, .int .i64 0] 101 (0, 0))) :
    Calls Tryz.prog 22 #[.pointer (some ⟨b, 0, none⟩), .int .i64 j] w fun e w' => e = .returned (.tuple #[]) ∧ ∃ u v, w' = (w.setCell ⟨b, 0, none⟩ u).setCell ⟨b, 1, none⟩ v := by
  have c0 : w.cell? ⟨b, 0, none⟩ = some (.string T) := by rw [Lib.cell_of_heap hb]; rfl
  have c1 : w.cell? ⟨b, 1, none⟩ = some (.int .i64 0) := by rw [Lib.cell_of_heap hb]; rfl
  have hf : ∀ j, w.frozen? ⟨b, j, none⟩ = false := fun j => Lib.frozen_of_heap hb j
  clear hb
  go_enter Tryz.func22, Tryz.ntmps22
  go_wp2_with (fail)
  go_end0
  exact ⟨rfl, _, _, rfl⟩
end Go.Proofs.YtbbgdcfbpgmjbaaGreatDoor
