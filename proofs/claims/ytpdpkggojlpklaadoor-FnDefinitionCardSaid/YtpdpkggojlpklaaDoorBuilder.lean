/- strings.Builder at this program: its writers, walked here (the shelf's layings fell at this dump's refused branch of copyCheck); String by the shelf's contract. -/
import Derived.Test.YtpdpkggojlpklaaDoorShelf
import Derived.Test.YtpdpkggojlpklaaDoorRows
import Derived.WalkKit
import Derived.WalkSpells
import Derived.WalkLawsBesides
import Derived.Lib.Hide
namespace Go.Proofs.YtpdpkggojlpklaaDoor
open Go.RowKit
theorem bld_size : (Tryd.prog.info? 92).map (·.size) = some 2 := by kernel_rfl
theorem bld_lies : liesAt Tryd.prog Tryd.prog.depth 92 (2 / Tryd.prog.cellsOf 92) 0 92 1 = true := by kernel_rfl
theorem bld_u8 : (Tryd.prog.info? 5).map (fun i => (i.zero, i.size, i.bytes)) = some (some (.int .u8 0), 1, 1) := by kernel_rfl
set_option maxHeartbeats 1000000 in
set_option maxRecDepth 100000 in
theorem bld_check_used (b : Nat) (w : World) (h0 : w.cell? ⟨b, 0, none⟩ = some (.pointer (some ⟨b, 0, none⟩))) :
    Calls Tryd.prog 48 #[.pointer (some ⟨b, 0, none⟩)] w fun e w' => e = .returned (.tuple #[]) ∧ w' = w := by
  obtain ⟨j, hj, _⟩ := Option.map_eq_some_iff.1 bld_size
  go_enter Tryd.func48, Tryd.ntmps48
  go_wp2
  rw [Lib.run_neq_ptr_same w _ Tryd.underlying90 hj]
  go_wp2
  go_end0
  exact ⟨rfl, rfl⟩
set_option maxHeartbeats 1000000 in
set_option maxRecDepth 100000 in
theorem bld_check_fresh (b : Nat) (w : World) (h0 : w.cell? ⟨b, 0, none⟩ = some (.pointer none)) (hsh : w.shape? b = some (92, 2)) (hfz : w.frozen? ⟨b, 0, none⟩ = false) :
    Calls Tryd.prog 48 #[.pointer (some ⟨b, 0, none⟩)] w fun e w' => e = .returned (.tuple #[]) ∧ w' = w.setCell ⟨b, 0, none⟩ (.pointer (some ⟨b, 0, none⟩)) := by
  obtain ⟨j, hj, hjs⟩ := Option.map_eq_some_iff.1 bld_size
  go_enter Tryd.func48, Tryd.ntmps48
  go_wp2
  rw [Lib.run_to_unsafe w ⟨b, 0, none⟩ Tryd.underlying90 Tryd.underlying103 hj (by rw [hjs]; decide) hsh (Nat.zero_lt_succ 1)]
  simp only [Result.andThen]
  rw [Oper.upon_value]
  go_wp2
  rw [run_callFunc_extern Tryd.func52 (by kernel_rfl) (by kernel_rfl) (by kernel_rfl) (e := Extern.AbiNoEscape.same) (by kernel_rfl)]
  rw [Lib.run_noEscape]
  simp only [Result.andThen]
  rw [Oper.upon_value]
  go_wp2
  rw [Lib.run_from_unsafe w ⟨b, 0, none⟩ Tryd.underlying103 Tryd.underlying90 hj hsh bld_lies]
  simp only [Result.andThen]
  rw [Oper.upon_value]
  go_wp2
  go_end0
  exact ⟨rfl, rfl⟩
/-- a builder in block b (from B on) that holds these bytes -/
def Bld (B b : Nat) (l : List UInt8) (w : World) : Prop := Lib.IsBuilder 92 5 B b (Lib.byteCells l) w
theorem Bld.new (w : World) : Bld w.heap.size w.heap.size [] (w.alloc (.cells #[.pointer none, .slice none 0 0] 92)) := Lib.fresh_isBuilder _ _ w
theorem Bld.low {B B' b : Nat} {l : List UInt8} {w : World} (h : Bld B b l w) (hB : B' ≤ B) : Bld B' b l w := by
  have go : ∀ p, Lib.BuilderAt 92 5 B b p (Lib.byteCells l) w → Lib.BuilderAt 92 5 B' b p (Lib.byteCells l) w := by
    rintro p ⟨h1, v, h2, h3, h4⟩
    refine ⟨by omega, v, h2, ?_, h4⟩
    obtain ⟨a, r⟩ := h3
    refine ⟨a, ?_⟩
    rcases r with r | ⟨g, cap, cur, e1, e2, r⟩
    · exact .inl r
    · exact .inr ⟨g, cap, cur, e1, by omega, r⟩
  rcases h with h | h
  · exact .inl (go _ h)
  · exact .inr (go _ h)
theorem bld_check (B b : Nat) (l : List UInt8) (w : World) (h : Bld B b l w) :
    Calls Tryd.prog 48 #[.pointer (some ⟨b, 0, none⟩)] w fun e w' => e = .returned (.tuple #[]) ∧ (Lib.BuilderAt 92 5 B b (.pointer (some ⟨b, 0, none⟩)) (Lib.byteCells l) w' ∧ Below B w w') := by
  rcases h with h | h
  · refine (bld_check_fresh b w h.cell0 h.shape h.frozen0).mono ?_
    rintro e w' ⟨rfl, rfl⟩
    exact ⟨rfl, h.used _, (Below.refl B w).setCell (p := ⟨b, 0, none⟩) h.1 _⟩
  · refine (bld_check_used b w h.cell0).mono ?_
    rintro e w' ⟨rfl, rfl⟩
    exact ⟨rfl, h, Below.refl B _⟩
theorem bytes_snoc (l : List UInt8) (c : UInt8) : Lib.byteCells (l ++ [c]) = Lib.byteCells l ++ [.int .u8 (c.toNat : Int)] := by
  unfold Lib.byteCells; rw [List.map_append]; rfl
set_option maxHeartbeats 2000000 in
set_option maxRecDepth 100000 in
theorem bld_byte (B b : Nat) (l : List UInt8) (c : UInt8) (w : World) (h : Bld B b l w) (hlen : l.length ≤ 100000) (hBw : B ≤ w.heap.size) :
    Calls Tryd.prog 40 #[.pointer (some ⟨b, 0, none⟩), .int .u8 (c.toNat : Int)] w fun e w' => e = .returned .nilIface ∧ (Bld B b (l ++ [c]) w' ∧ Below B w w') := by
  obtain ⟨i0, hi, hz0, hz1, hz2⟩ := info_parts bld_u8
  have hbl : (Lib.byteCells l).length ≤ 100000 := by rw [Lib.byteCells_length]; exact hlen
  unfold Bld
  rw [bytes_snoc]
  have HC := Lib.hid (bld_check B b l w h)
  clear h
  generalize Lib.byteCells l = bs at *
  go_enter Tryd.func40, Tryd.ntmps40
  go_wp2_with (go_at_call 48; refine HC.out.mono ?_)
  rintro e w1 ⟨rfl, h1, hb1⟩
  obtain ⟨hB, v, hbk, hown, hne⟩ := h1
  have c0 : w1.cell? ⟨b, 0, none⟩ = some (.pointer (some ⟨b, 0, none⟩)) := by rw [Lib.cell_of_heap hbk]; rfl
  have c1 : w1.cell? ⟨b, 1, none⟩ = some v := by rw [Lib.cell_of_heap hbk]; rfl
  go_wp2_with (at_builtin; refine wpList_append_own _ rfl _ _ 58 rfl B 5 i0 (.int .u8 0) 1 1 Tryd.underlying58 hi hz0 hz1 hz2 rfl (by decide) _ _ _ rfl (hown.alloc _) ⟨w1.heap.size, 0, none⟩ 1 1 [.int .u8 (c.toNat : Int)] rfl rfl ?c1 ?c2 ?c3 ?c4 ?c5 ?_)
  case c1 =>
    intro j u hj
    match j, hj with
    | 0, hj => simp at hj; subst hj; simp [Addr.add]
  case c2 => intro u hu; simp at hu; subst hu; rfl
  case c3 => unfold maxLen; omega
  case c4 => omega
  case c5 => have := hb1.size; simp; omega
  intro v' w2 hown' hgrow _
  have hlt : b < w1.heap.size := Lib.BuilderAt.lt ⟨hB, v, hbk, hown, hne⟩
  have hb2 : w2.heap[b]? = some (.cells #[.pointer (some ⟨b, 0, none⟩), v] 92 (0, 0)) := by
    rw [hgrow.block b (by simp; omega) (fun e => hne e.symm), Lib.alloc_old w1 _ b hlt]
    exact hbk
  have d0 : w2.cell? ⟨b, 0, none⟩ = some (.pointer (some ⟨b, 0, none⟩)) := by rw [Lib.cell_of_heap hb2]; rfl
  have d1 : w2.cell? ⟨b, 1, none⟩ = some v := by rw [Lib.cell_of_heap hb2]; rfl
  have f1 : w2.frozen? ⟨b, 1, none⟩ = false := Lib.frozen_of_heap hb2 1
  obtain ⟨g, cap, rfl⟩ : ∃ g cap, v' = .slice (some ⟨g, 0, none⟩) (bs.length + 1) cap := by
    rcases hown'.2 with ⟨_, h0⟩ | ⟨g, cap, cur, hv, _⟩
    · omega
    · exact ⟨g, cap, hv⟩
  go_wp2
  go_ret
  refine ⟨rfl, .inr ?_, ?_⟩
  · exact Lib.BuilderAt.put (T := 92) (e := 5) hB hb2 (bs' := bs ++ [.int .u8 (c.toNat : Int)]) (by simpa using hown') (by decide)
  · exact ((hb1.alloc (by have := hb1.size; omega) _).grown hgrow (by have := hb1.size; simp; omega) (fun k hk => (hown.lt k hk).1)).setCell (p := ⟨b, 1, none⟩) hB _
theorem bld_byteOf (B b : Nat) (l : List UInt8) (c : UInt8) (x : Int) (hx : x = (c.toNat : Int)) (w : World) (h : Bld B b l w) (hlen : l.length ≤ 100000) (hBw : B ≤ w.heap.size) :
    Calls Tryd.prog 40 #[.pointer (some ⟨b, 0, none⟩), .int .u8 x] w fun e w' => e = .returned .nilIface ∧ (Bld B b (l ++ [c]) w' ∧ Below B w w') := by
  subst hx; exact bld_byte B b l c w h hlen hBw
theorem bytes_app (l m : List UInt8) : Lib.byteCells (l ++ m) = Lib.byteCells l ++ Lib.byteCells m := by
  unfold Lib.byteCells; rw [List.map_append]
theorem strCells_bytes (s : ByteArray) : Lib.strCells s = Lib.byteCells s.data.toList := rfl
set_option maxHeartbeats 2000000 in
set_option maxRecDepth 100000 in
theorem bld_string (B b : Nat) (l : List UInt8) (s : ByteArray) (w : World) (h : Bld B b l w) (hlen : l.length ≤ 100000) (hs : s.size ≤ 100000) (hBw : B ≤ w.heap.size) :
    Calls Tryd.prog 46 #[.pointer (some ⟨b, 0, none⟩), .string s] w fun e w' => e = .returned (.tuple #[.int .i64 s.size, .nilIface]) ∧ (Bld B b (l ++ s.data.toList) w' ∧ Below B w w') := by
  obtain ⟨i0, hi, hz0, hz1, hz2⟩ := info_parts bld_u8
  have hbl : (Lib.byteCells l).length ≤ 100000 := by rw [Lib.byteCells_length]; exact hlen
  unfold Bld
  rw [bytes_app, ← strCells_bytes]
  have HC := Lib.hid (bld_check B b l w h)
  clear h
  generalize Lib.byteCells l = bs at *
  go_enter Tryd.func46, Tryd.ntmps46
  go_wp2_with (go_at_call 48; refine HC.out.mono ?_)
  rintro e w1 ⟨rfl, h1, hb1⟩
  obtain ⟨hB, v, hbk, hown, hne⟩ := h1
  have c0 : w1.cell? ⟨b, 0, none⟩ = some (.pointer (some ⟨b, 0, none⟩)) := by rw [Lib.cell_of_heap hbk]; rfl
  have c1 : w1.cell? ⟨b, 1, none⟩ = some v := by rw [Lib.cell_of_heap hbk]; rfl
  go_wp2_with (at_builtin; refine Lib.wpList_append_own_string _ rfl _ _ 58 9 rfl B 5 i0 Tryd.underlying58 Tryd.underlying9 hi hz0 hz1 hz2 _ _ _ rfl hown s rfl ?c3 ?c4 ?c5 ?_)
  case c3 => unfold maxLen; omega
  case c4 => omega
  case c5 => have := hb1.size; omega
  intro v' w2 hown' hgrow _
  have hlt : b < w1.heap.size := Lib.BuilderAt.lt ⟨hB, v, hbk, hown, hne⟩
  have hb2 : w2.heap[b]? = some (.cells #[.pointer (some ⟨b, 0, none⟩), v] 92 (0, 0)) := by
    rw [hgrow.block b hlt (fun e => hne e.symm)]
    exact hbk
  have d0 : w2.cell? ⟨b, 0, none⟩ = some (.pointer (some ⟨b, 0, none⟩)) := by rw [Lib.cell_of_heap hb2]; rfl
  have d1 : w2.cell? ⟨b, 1, none⟩ = some v := by rw [Lib.cell_of_heap hb2]; rfl
  have f1 : w2.frozen? ⟨b, 1, none⟩ = false := Lib.frozen_of_heap hb2 1
  obtain ⟨ao, n', cap, rfl⟩ : ∃ ao n' cap, v' = .slice ao n' cap := by
    rcases hown'.2 with ⟨hv, _⟩ | ⟨g, cap, cur, hv, _⟩
    · exact ⟨_, _, _, hv⟩
    · exact ⟨_, _, _, hv⟩
  go_wp2
  go_ret2
  refine ⟨rfl, .inr ?_, ?_⟩
  · exact Lib.BuilderAt.put (T := 92) (e := 5) hB hb2 (bs' := bs ++ Lib.strCells s) (by simpa [Lib.strCells_length] using hown') (by decide)
  · exact (hb1.grown hgrow (by have := hb1.size; omega) (fun k hk => (hown.lt k hk).1)).setCell (p := ⟨b, 1, none⟩) hB _
theorem bld_text (B b : Nat) (l : List UInt8) (w : World) (h : Bld B b l w) (hBw : B ≤ w.heap.size) :
    Calls Tryd.prog 41 #[.pointer (some ⟨b, 0, none⟩)] w fun e w' => e = .returned (.string ⟨l.toArray⟩) ∧ Below B w w' := Tryd.Builder_String_any B b l w h hBw
end Go.Proofs.YtpdpkggojlpklaaDoor
