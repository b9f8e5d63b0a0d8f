/- The doors to definitions: the one link of the state's map; the thin package's LinkRefDef. -/
import Derived.Test.YtpdpkggojlpklaaDoorRefDef
import Derived.Laws.IdiomRangeMap
import Derived.Deep.LoopGhost
import Derived.Deep.QuietTactic
import Derived.BigQuiet
namespace Go.Proofs.YtpdpkggojlpklaaDoor
open Go.RowKit
theorem run_next_one {P : Program} (w : World) (ty : TypeId) (bm : Nat) (key val : Value) (hb : w.heap[bm]? = some (.map #[{ key := key, val := val, born := 0 }] 1)) :
    (Instr.next (.pointer (some ⟨w.heap.size, 0, none⟩)) false ty).run P (w.alloc (.mapIter (some bm) 1 #[] 1)) = .ok (.tuple #[.bool true, key, val]) (w.alloc (.mapIter (some bm) 1 #[0] 1)) := by
  have hlt : bm < w.heap.size := by
    rcases Nat.lt_or_ge bm w.heap.size with h | h
    · exact h
    · simp [Array.getElem?_eq_none h] at hb
  have hb' : (w.alloc (.mapIter (some bm) 1 #[] 1)).heap[bm]? = some (.map #[{ key := key, val := val, born := 0 }] 1) := by rw [heap_alloc_old w _ hlt, hb]
  have hset : (setObj w.heap.size (.mapIter (some bm) 1 #[0] 1)).run P (w.alloc (.mapIter (some bm) 1 #[] 1)) = .ok () (w.alloc (.mapIter (some bm) 1 #[0] 1)) := by
    simp only [setObj, Sem.run]
    rw [heap_alloc_new]
    show Result.ok () ({ w.alloc (.mapIter (some bm) 1 #[] 1) with heap := (w.heap.push (.mapIter (some bm) 1 #[] 1)).setIfInBounds w.heap.size (.mapIter (some bm) 1 #[0] 1) } : World) = _
    have hp : ∀ (h : Array Obj) (x y : Obj), (h.push x).setIfInBounds h.size y = h.push y := by
      intro h x y
      apply Array.toList_inj.1
      simp
    rw [hp]
    rfl
  simp only [Instr.next, getObj, Sem.run_bind, Sem.run, heap_alloc_new, hb', Result.andThen]
  simp [choose, Sem.run, Question.forced, Result.andThen, hset]
/-- what the package's door tells -/
def DoorMade (LB DS TI : ByteArray) (z : Nat) (w : World) (e : Ending) (w' : World) : Prop :=
  ∃ k : Nat, e = .returned (.tuple #[.int .i64 ((z : Int) + 1), .string ⟨(lowL LB.data.toList).toArray⟩, .pointer (some ⟨k, 0, none⟩)]) ∧ w'.cell? ⟨k, 1, none⟩ = some (.string DS) ∧ w'.cell? ⟨k, 2, none⟩ = some (.string TI) ∧ Below w.heap.size w w'
set_option maxHeartbeats 2000000 in
theorem md_ZZLinkRefDef (s : ByteArray) (c p q r z : Nat) (LB DS TI : ByteArray) (w : World) (hd : IsDef s c p q r z LB DS TI) (ht : TableAt w) (h0 : 4 < w.heap.size) :
    Calls Tryd.prog 14 #[.string s] w (DoorMade LB DS TI z w) := by
  have HR := Lib.hid (fun (b m : Nat) (w1 : World) (h1 : StateAt b m w1) (h2 : b < w1.heap.size) (h3 : m < w1.heap.size) (h4 : w.heap.size ≤ m) (h5 : b ≠ m) (h6 : Below w.heap.size w w1) => md_parseLinkRefDef s c p q r z w.heap.size b m LB DS TI w1 hd h1 h2 h3 h4 h5 (ht.below h6 h0) (Nat.lt_of_lt_of_le h0 h6.size))
  have hrm := fun (w : World) (bm : Nat) es clock hb => run_range_map (P := Tryd.prog) w 49 _ _ bm es clock key_ok hb
  have HRM := Lib.hid hrm
  clear hd ht hrm
  unfold DoorMade
  unfold RefMade at HR
  generalize (⟨(lowL LB.data.toList).toArray⟩ : ByteArray) = LW at *
  go_enter Tryd.func14, Tryd.ntmps14
  go_wp2_with (go_at_call 23; refine (md_zzStateN _).mono ?_; rintro e w1 ⟨b, m, rfl, hb1, hb2, hm1, hm2, hst, hbel⟩; have HST := Lib.hid hst; clear hst)
  have HRw := Lib.hid (HR.out b m _ HST.out hb2 (by omega) hm1 (by omega) hbel)
  clear HR
  go_wp2_with (go_at_call 24; refine HRw.out.mono ?_; rintro e w2 ⟨k, rfl, hmp, hmk, hc1, hc2, hcm, hbel2⟩; have hrg := HRM.out w2 m _ 1 hmp; have hnx := fun ty => run_next_one (P := Tryd.prog) w2 ty m _ _ hmp; have hen := run_entry_map (P := Tryd.prog) w2 m 1 #[] _ 1 _ hmp (List.mem_singleton.2 rfl) (by simp); have HM := Lib.hid hmp; clear hmp)
  have hk : k < w2.heap.size := block_lt_of_cell hc1
  rw [show (#[] : Array Nat).push 0 = #[0] from rfl] at hen
  have hb0 : Below w.heap.size w (w2.alloc (.mapIter (some m) 1 #[0] 1)) := (hbel.trans hbel2).alloc (by have := hbel.size; have := hbel2.size; omega) _
  have hd1 : (w2.alloc (.mapIter (some m) 1 #[0] 1)).cell? ⟨k, 1, none⟩ = some (.string DS) := by rw [World.cell?_alloc_lt _ _ _ hk]; exact hc1
  have hd2 : (w2.alloc (.mapIter (some m) 1 #[0] 1)).cell? ⟨k, 2, none⟩ = some (.string TI) := by rw [World.cell?_alloc_lt _ _ _ hk]; exact hc2
  have HB := Lib.hid hb0
  have HD1 := Lib.hid hd1
  have HD2 := Lib.hid hd2
  clear hb0 hd1 hd2 hc1 hc2 hcm hrg
  go_loopg [2] 0 (fun g v wx => v = .int .i64 ((z : Int) + 1) ∧ w2.alloc (.mapIter (some m) 1 #[] 1) = wx)
  case atStart => exact ⟨rfl, rfl⟩
  case round =>
    obtain ⟨rfl, rfl⟩ := hrel
    go_wp2
    go_ret3
    exact ⟨k, rfl, HD1.out, HD2.out, HB.out⟩
/-- the four results of the thin package's word -/
theorem results_fourD {fn : Func} {t u v x : Tmp} (h : fn.results = #[.tmp t, .tmp u, .tmp v, .tmp x]) (tmps : Array Value) (P : Program) (w : World) :
    (results fn tmps).run P w = .ok (.tuple #[tmps.getD t undef, tmps.getD u undef, tmps.getD v undef, tmps.getD x undef]) w := by simp [results, h]
theorem bel_drewD {B : Nat} {a w : World} (h : Below B a w) (n : Nat) : Below B a (w.drewN n) := ⟨h.os, h.tape, h.output, h.size, h.block⟩
theorem impl_LinkRefDef (s : ByteArray) (c p q r z : Nat) (LB DS TI : ByteArray) (w : World) (hd : IsDef s c p q r z LB DS TI) (ht : TableAt w) (h0 : 4 < w.heap.size) :
    Calls Tryd.prog 9 #[.string s] w fun e w' => e = .returned (.tuple #[.int .i64 ((z : Int) + 1), .string ⟨(lowL LB.data.toList).toArray⟩, .string DS, .string TI]) ∧ Below w.heap.size w w' := by
  have H := md_ZZLinkRefDef s c p q r z LB DS TI w hd ht h0
  unfold DoorMade at H
  replace H := Lib.hid H
  clear hd ht
  generalize (⟨(lowL LB.data.toList).toArray⟩ : ByteArray) = LW at *
  go_enter Tryd.func9, Tryd.ntmps9
  go_wp2_with (go_at_call 14; refine H.out.mono ?_; rintro e w2 ⟨k, rfl, hc1, hc2, hbel⟩)
  go_outline
  go_quiet (fail)
  go_wp2
  exact bodyPost_ret (results_fourD (t := 2) (u := 3) (v := 4) (x := 5) rfl _ _ _) rfl ⟨rfl, bel_drewD hbel _⟩
end Go.Proofs.YtpdpkggojlpklaaDoor
