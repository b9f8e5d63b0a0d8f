/- The package's reading of an address behind 'http://'. -/
import Derived.Test.YtbbgdcfbpgmjbaaGreatDoorHead
import Derived.Test.YtbbgdcfbpgmjbaaGreatDoorPrintLink
import Derived.BigQuiet
import Derived.WalkMore
namespace Go.Proofs.YtbbgdcfbpgmjbaaGreatDoor
open Go.RowKit
theorem md_isUnicodeSpace_blank (w : World) : Calls Tryz.prog 36 #[.int .i32 32] w fun e w' => e = .returned (.bool true) ∧ w = w' := by
  go_enter Tryz.func36, Tryz.ntmps36
  go_wp2_with (fail)
  go_ret
  exact ⟨rfl, rfl⟩
theorem extract_head {T : ByteArray} {i j : Nat} {x : UInt8} (hi : i < T.size) (hj : i < j) (hx : T[i] = x) : (T.extract i j).data.toList[0]? = some x := by
  have h : 0 < (T.extract i j).size := by simp; omega
  have h2 : (T.extract i j)[0] = x := by rw [← hx]; exact ByteArray.getElem_extract (by omega)
  have h3 : 0 < (T.extract i j).data.toList.length := h
  rw [List.getElem?_eq_getElem h3, ← h2]
  rfl
theorem three_allocs (w : World) (o1 o2 o3 : Obj) : (((w.alloc o1).alloc o2).alloc o3).heap[w.heap.size]? = some o1 ∧ (((w.alloc o1).alloc o2).alloc o3).heap[w.heap.size + 1]? = some o2 ∧ (((w.alloc o1).alloc o2).alloc o3).heap[w.heap.size + 1 + 1]? = some o3 := by
  have s1 : (w.alloc o1).heap.size = w.heap.size + 1 := by simp
  have s2 : ((w.alloc o1).alloc o2).heap.size = w.heap.size + 1 + 1 := by simp
  refine ⟨?_, ?_, ?_⟩
  · rw [heap_alloc_old _ _ (by omega), heap_alloc_old _ _ (by omega), heap_alloc_new]
  · rw [heap_alloc_old _ _ (by omega), ← s1, heap_alloc_new]
  · rw [← s2, heap_alloc_new]
/-- the call tells of a link: its block, what follows, and true -/
def LinkFound (u x r : ByteArray) (w : World) (e : Ending) (w' : World) : Prop :=
  ∃ k g h, e = .returned (.tuple #[.pointer (some ⟨k, 0, none⟩), .string r, .bool true]) ∧ w.heap.size ≤ k ∧ w.heap.size ≤ g ∧ w.heap.size ≤ h ∧ LinkIn u x k g h w' ∧ Below w.heap.size w w'
set_option maxHeartbeats 4000000 in
set_option maxRecDepth 100000 in
theorem md_parseAutoHTTP (v : Value) (sch T : ByteArray) (x a b : Nat) (w : World) (hT : DomAt T a) (hx : x < a) (hsch : sch.size ≤ 100) (hb : w.cell? ⟨b, 0, none⟩ = some (.string T)) (hc : w.cell? ⟨b, 1, none⟩ = some (.int .i64 0)) :
    Calls Tryz.prog 29 #[v, .string sch, .string T, .int .i64 x, .int .i64 a, .int .i64 (a + 1 : Nat), .pointer (some ⟨b, 0, none⟩)] w (LinkFound (sch ++ T.extract a (a + 3)) (T.extract x (a + 3)) (T.extract (a + 3) (a + 4)) w) := by
  have hs := hT.size
  have hsh := hT.short
  have e2 := hT.c2 (by omega)
  have HV := Lib.hid (md_parseValidDomain T a b w hT hb hc)
  have HD := Lib.hid (fun j (hj : a + 3 < j) w => Tryz.utf8_DecodeRuneInString_ascii (T.extract (a + 3) j) 32 w (extract_head (by omega) hj (hT.c3 (by omega))) (by decide))
  have HS := Lib.hid (fun w => md_isUnicodeSpace_blank w)
  clear hT hb hc
  unfold LinkFound
  go_enter Tryz.func29, Tryz.ntmps29
  go_wp2
  go_step3
  go_wp2_with (go_at_call 34; go_must (refine HV.out.mono ?_); rintro e w2 ⟨rfl, rfl⟩)
  go_loopg [19, 21] 0 (fun gg i pn wx => i = .int .i64 ((a + 3 : Nat) : Int) ∧ pn = .int .i64 0 ∧ w = wx)
  case atStart => exact ⟨by go_num, rfl, rfl⟩
  case round =>
    obtain ⟨rfl, rfl, rfl⟩ := hrel
    go_wp2_with (first
      | (go_at_call 35; refine (HD.out _ (by omega) _).mono ?_; rintro e w3 ⟨rfl, rfl⟩)
      | (go_at_call 36; refine (HS.out _).mono ?_; rintro e w3 ⟨rfl, rfl⟩))
    go_step3
    go_wp2
    go_loopg [19, 21] 0 (fun gg i pn wx => i = .int .i64 ((a + 3 : Nat) : Int) ∧ pn = .int .i64 0 ∧ w3 = wx)
    case atStart => exact ⟨by go_num, rfl, rfl⟩
    case round =>
      obtain ⟨rfl, rfl, rfl⟩ := hrel
      go_wp2
      go_region
      all_goals go_wp2
      all_goals (try go_region)
      all_goals go_wp2
      obtain ⟨h1, h2, h3⟩ := three_allocs w3 (.cells #[.string (T.extract x (a + 3))] 54) (.cells #[.iface 51 (.pointer (some ⟨w3.heap.size, 0, none⟩))] 34)
        (.cells #[.slice (some ⟨w3.heap.size + 1, 0, none⟩) 1 1, .string (sch ++ T.extract a (a + 3)), .string ⟨#[]⟩, .int .u8 0, .bool false] 71)
      rw [Exit.noGoto_ret]
      refine bodyPost_ret (v := .tuple #[.pointer (some ⟨w3.heap.size + 1 + 1, 0, none⟩), .string (T.extract (a + 3) (a + 4)), .bool true]) (by simp [results, go_sem]) rfl
        ⟨w3.heap.size + 1 + 1, w3.heap.size + 1, w3.heap.size, rfl, by omega, by omega, by omega, ⟨⟨1, .bool false, h3⟩, ⟨_, h2, rfl⟩, h1⟩, ((((Below.refl _ _).alloc (Nat.le_refl _) _).alloc (by simp) _).alloc (by simp; omega) _).drew.drew⟩
end Go.Proofs.YtbbgdcfbpgmjbaaGreatDoor
