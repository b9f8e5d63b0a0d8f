/- The package's comments: read whole where the text between the marks bears no hyphen. -/
import Derived.Test.YtpdpkggojlpklaaGreatMarker
import Derived.Test.YtpdpkggojlpklaaGreatBlk
namespace Go.Proofs.YtpdpkggojlpklaaGreat
open Go.RowKit
/-- an assertion to a pointer type, without 'ok', that holds -/
theorem assert_sure {P : Program} {t : TypeId} (hu : isPtr P t = true) (v : Value) (xT : TypeId) (w : World) :
    (Instr.typeAssert (.iface t v) xT t false).run P w = .ok v w := by
  obtain ⟨e, hu⟩ := isPtr_iff hu
  simp [Instr.typeAssert, run_underlying hu]
def cmA : ByteArray := ⟨#[60, 33, 45, 45]⟩
def cmB : ByteArray := ⟨#[45, 45, 62]⟩
def cmX : ByteArray := ⟨#[60, 33, 45, 45, 62]⟩
def cmY : ByteArray := ⟨#[60, 33, 45, 45, 45, 62]⟩
def cmH : ByteArray := ⟨#[45, 45]⟩
/-- a comment of n bytes stands at i -/
structure IsComment (s : ByteArray) (i n : Nat) : Prop where
  size : s.size ≤ 1000
  place : i + n ≤ s.size
  long : 7 ≤ n
  first : hasPre (s.extract i s.size) cmX = false
  second : hasPre (s.extract i s.size) cmY = false
  ends : untilOf (s.extract i s.size) cmA cmB = n
  inner : findSub cmH.data.toList ((s.extract i (i + n)).extract 4 (n - 2)).data.toList = none
set_option maxHeartbeats 1000000 in
theorem md_parseHTMLComment (s : ByteArray) (i n : Nat) (w : World) (h : IsComment s i n) :
    Calls Tryz.prog 18 #[.string s, .int .i64 i] w (TagMade s i (i + n) w) := by
  obtain ⟨hs, hp, hl, h1, h2, hu, hf⟩ := h
  have HX := fun (q : ByteArray) w => strings_HasPrefix (s.extract i s.size) q w
  have h1' : hasPre (s.extract i s.size) ⟨#[60, 33, 45, 45, 62]⟩ = false := h1
  have h2' : hasPre (s.extract i s.size) ⟨#[60, 33, 45, 45, 45, 62]⟩ = false := h2
  have HM := fun w => md_parseHTMLMarker s cmA cmB i w hs (by omega) (by decide) (by decide) (by decide)
  unfold markRes at HM
  rw [hu] at HM
  simp only [show n ≠ 0 by omega, if_false] at HM
  have hsz : (s.extract i (i + n)).size = n := by rw [ByteArray.size_extract]; omega
  have HC := fun w => md_zzContains ((s.extract i (i + n)).extract 4 (n - 2)) cmH w (by rw [ByteArray.size_extract, hsz]; unfold maxLen; show _ + 2 + 1 ≤ _; omega)
  rw [hf] at HC
  have HX := Lib.hid HX
  have HM := Lib.hid HM
  have HC := Lib.hid HC
  have az : ∀ v w, (Instr.typeAssert (.iface 70 v) 34 70 false).run Tryz.prog w = .ok v w := fun v w => assert_sure (by kernel_rfl) v _ w
  have hsz2 : (s.extract i (i + n)).size ≤ n ∧ n ≤ (s.extract i (i + n)).size := by omega
  have HS := Lib.hid hsz
  clear h1 h2 hu hf hsz
  unfold TagMade
  go_enter Tryz.func18, Tryz.ntmps18
  go_wp2_with (first
    | (go_at_call 6; refine (HX.out _ _).mono ?_; rintro e w' ⟨rfl, rfl⟩; simp only [h1', h2'])
    | (go_at_call 27; refine (HM.out _).mono ?_; rintro e w2 ⟨b, rfl, hbb, hc, hb⟩)
    | (go_at_call 28; refine (HC.out _).mono ?_; rintro e w' ⟨rfl, rfl⟩))
  go_ret3
  exact ⟨b, rfl, hbb, hc, hb⟩
end Go.Proofs.YtpdpkggojlpklaaGreat
