/- The shelf's contracts of the library's functions, laid at this program by the guide's own commands (plain words). -/
import Derived.Shelf.Small.Strs
import Derived.Shelf.LaysM
import Derived.Shelf.Bytes.Len
import Derived.Shelf.Bytes.TryGrow
import Derived.Shelf.Bytes.GrowSliceCatch
import Derived.Shelf.Bytes.GrowSlice
import Derived.Shelf.Bytes.String
import Derived.Shelf.Strings.Search1
import Derived.Shelf.Bytes.GrowRow0Kept
import Derived.Shelf.Bytes.GrowRowKept
import Derived.Shelf.Bytes.GrowNilKept
import Derived.Shelf.Bytes.GrowKept
import Derived.Shelf.Bytes.WriteByteKept
import Derived.Shelf.Bytes.WriteStringKept
import Derived.Shelf.Bytes.ResetKept
import Derived.Shelf.Bytes.BufferK
import Derived.Shelf.Unicode.Decode
import Derived.Test.YtbbgdcfbpgmjbaaGreatDoorProg
namespace Go.Proofs
open Go.Shelf
def Tryz.lays137_ren : Go.Shelf.Ren := ⟨fun | 137 => 7 | 217 => 12 | 266 => 18 | n => n, fun | 9 => 9 | 5 => 5 | 3 => 3 | n => n, fun | n => n⟩
theorem Tryz.lays137 : Go.Proofs.Lays.n137 Tryz.prog Tryz.lays137_ren := {
  mixed := by kernel_rfl
  f137 := Tryz.func7.trans (congrArg some (by kernel_rfl))
  f217 := Tryz.func12.trans (congrArg some (by kernel_rfl))
  f266 := Tryz.func18.trans (congrArg some (by kernel_rfl))
  t3 := Tryz.underlying3
  a3 := Tryz.isAgg3
  z3 := Tryz.sizeOf3
  v3 := Tryz.zeroValue3
  t5 := Tryz.underlying5
  a5 := Tryz.isAgg5
  z5 := Tryz.sizeOf5
  v5 := Tryz.zeroValue5
  t9 := Tryz.underlying9
  a9 := Tryz.isAgg9
  z9 := Tryz.sizeOf9
  v9 := Tryz.zeroValue9 }
open Go.RowKit in
theorem Tryz.strings_IndexByte (s : ByteArray) (c : Int) (w : World) :
    Calls Tryz.prog 7 #[.string s, .int .u8 c] w fun e w' => e = .returned (.int .i64 (Lib.indexByte s.data.toList c.toNat.toUInt8)) ∧ w' = w := Any.strings_IndexByte Tryz.lays137 s c w
def Tryz.laysM181_ren : Go.Shelf.Ren := ⟨fun | 181 => 66 | n => n, fun | 130 => 48 | 3 => 3 | 0 => 0 | 93 => 46 | 37 => 42 | 91 => 44 | 5 => 5 | n => n, fun | n => n⟩
theorem Tryz.laysM181 : Go.Proofs.LaysM.n181 Tryz.prog Tryz.laysM181_ren := {
  mixed := by kernel_rfl
  f181 := Tryz.func66.trans (congrArg some (by kernel_rfl))
  t0 := Tryz.underlying0
  a0 := Tryz.isAgg0
  z0 := Tryz.sizeOf0
  v0 := Tryz.zeroValue0
  t3 := Tryz.underlying3
  a3 := Tryz.isAgg3
  z3 := Tryz.sizeOf3
  v3 := Tryz.zeroValue3
  t37 := Tryz.underlying42
  a37 := Tryz.isAgg42
  z37 := Tryz.sizeOf42
  v37 := Tryz.zeroValue42
  t93 := Tryz.underlying46
  a93 := Tryz.isAgg46
  z93 := Tryz.sizeOf46
  v93 := Tryz.zeroValue46
  t130 := Tryz.underlying48
  a130 := Tryz.isAgg48
  z130 := Tryz.sizeOf48
  v130 := Tryz.zeroValue48
  t5 := Tryz.underlying5
  a5 := Tryz.isAgg5
  z5 := Tryz.sizeOf5
  v5 := Tryz.zeroValue5
  t91 := Tryz.underlying44
  a91 := Tryz.isAgg44
  z91 := Tryz.sizeOf44
  v91 := Tryz.zeroValue44
  i0 := by kernel_rfl
  i3 := by kernel_rfl
  i5 := by kernel_rfl
  i37 := by kernel_rfl
  i91 := by kernel_rfl
  i93 := by kernel_rfl
  i130 := by kernel_rfl }
open Go.RowKit in
theorem Tryz.Buffer_Len (B b : Nat) (bs : List Value) (w : World) (h : Lib.IsBuffer 46 5 B b bs w) :
    Calls Tryz.prog 66 #[.pointer (some ⟨b, 0, none⟩)] w fun e w' => e = .returned (.int .i64 bs.length) ∧ ∃ n, w' = w.drewN n := Any.Buffer_Len Tryz.laysM181 B b bs w h
def Tryz.laysM251_ren : Go.Shelf.Ren := ⟨fun | 251 => 64 | n => n, fun | 130 => 48 | 3 => 3 | 4 => 4 | 0 => 0 | 93 => 46 | 37 => 42 | 91 => 44 | 5 => 5 | n => n, fun | n => n⟩
theorem Tryz.laysM251 : Go.Proofs.LaysM.n251 Tryz.prog Tryz.laysM251_ren := {
  mixed := by kernel_rfl
  f251 := Tryz.func64.trans (congrArg some (by kernel_rfl))
  t0 := Tryz.underlying0
  a0 := Tryz.isAgg0
  z0 := Tryz.sizeOf0
  v0 := Tryz.zeroValue0
  t3 := Tryz.underlying3
  a3 := Tryz.isAgg3
  z3 := Tryz.sizeOf3
  v3 := Tryz.zeroValue3
  t4 := Tryz.underlying4
  a4 := Tryz.isAgg4
  z4 := Tryz.sizeOf4
  v4 := Tryz.zeroValue4
  t37 := Tryz.underlying42
  a37 := Tryz.isAgg42
  z37 := Tryz.sizeOf42
  v37 := Tryz.zeroValue42
  t93 := Tryz.underlying46
  a93 := Tryz.isAgg46
  z93 := Tryz.sizeOf46
  v93 := Tryz.zeroValue46
  t130 := Tryz.underlying48
  a130 := Tryz.isAgg48
  z130 := Tryz.sizeOf48
  v130 := Tryz.zeroValue48
  t5 := Tryz.underlying5
  a5 := Tryz.isAgg5
  z5 := Tryz.sizeOf5
  v5 := Tryz.zeroValue5
  t91 := Tryz.underlying44
  a91 := Tryz.isAgg44
  z91 := Tryz.sizeOf44
  v91 := Tryz.zeroValue44
  i0 := by kernel_rfl
  i3 := by kernel_rfl
  i4 := by kernel_rfl
  i5 := by kernel_rfl
  i37 := by kernel_rfl
  i91 := by kernel_rfl
  i93 := by kernel_rfl
  i130 := by kernel_rfl }
open Go.RowKit in
theorem Tryz.Buffer_tryGrow_room (b : Nat) (ao : Option Addr) (l cap n : Nat) (w : World) (c0 : w.cell? ⟨b, 0, none⟩ = some (.slice ao l cap)) (f0 : w.frozen? ⟨b, 0, none⟩ = false) (hlc : l ≤ cap) (hcap : cap ≤ maxLen) (hn : n ≤ cap - l) :
    Calls Tryz.prog 64 #[.pointer (some ⟨b, 0, none⟩), .int .i64 n] w fun e w' => e = .returned (.tuple #[.int .i64 l, .bool true]) ∧ w' = w.setCell ⟨b, 0, none⟩ (.slice ao (l + n) cap) := Any.Buffer_tryGrow_room Tryz.laysM251 b ao l cap n w c0 f0 hlc hcap hn
open Go.RowKit in
theorem Tryz.Buffer_tryGrow_none (b : Nat) (ao : Option Addr) (l cap n : Nat) (w : World) (c0 : w.cell? ⟨b, 0, none⟩ = some (.slice ao l cap)) (hlc : l ≤ cap) (hcap : cap ≤ maxLen) (hn : cap - l < n) :
    Calls Tryz.prog 64 #[.pointer (some ⟨b, 0, none⟩), .int .i64 n] w fun e w' => e = .returned (.tuple #[.int .i64 0, .bool false]) ∧ w' = w := Any.Buffer_tryGrow_none Tryz.laysM251 b ao l cap n w c0 hlc hcap hn
def Tryz.laysM324_ren : Go.Shelf.Ren := ⟨fun | 324 => 68 | n => n, fun | 20 => 20 | 4 => 4 | 75 => 153 | 0 => 0 | 80 => 49 | 9 => 9 | n => n, fun | 14 => 3 | n => n⟩
theorem Tryz.laysM324 : Go.Proofs.LaysM.n324 Tryz.prog Tryz.laysM324_ren := {
  mixed := by kernel_rfl
  f324 := Tryz.func68.trans (congrArg some (by kernel_rfl))
  t0 := Tryz.underlying0
  a0 := Tryz.isAgg0
  z0 := Tryz.sizeOf0
  v0 := Tryz.zeroValue0
  t4 := Tryz.underlying4
  a4 := Tryz.isAgg4
  z4 := Tryz.sizeOf4
  v4 := Tryz.zeroValue4
  t20 := Tryz.underlying20
  a20 := Tryz.isAgg20
  z20 := Tryz.sizeOf20
  v20 := Tryz.zeroValue20
  t75 := Tryz.underlying153
  a75 := Tryz.isAgg153
  z75 := Tryz.sizeOf153
  v75 := Tryz.zeroValue153
  g14 := by kernel_rfl
  t9 := Tryz.underlying9
  a9 := Tryz.isAgg9
  z9 := Tryz.sizeOf9
  v9 := Tryz.zeroValue9
  t80 := Tryz.underlying49
  a80 := Tryz.isAgg49
  z80 := Tryz.sizeOf49
  v80 := Tryz.zeroValue49
  i0 := by kernel_rfl
  i4 := by kernel_rfl
  i9 := by kernel_rfl
  i20 := by kernel_rfl
  i75 := by kernel_rfl
  i80 := by kernel_rfl
  m14 := by kernel_rfl }
theorem Tryz.growSlice_catch_idle (w : World) :
    CallsD Tryz.prog 68 #[] .returning w fun e u' w' => e = .returned (.tuple #[]) ∧ u' = .returning ∧ w' = w := Any.growSlice_catch_idle Tryz.laysM324 w
def Tryz.laysM290_ren : Go.Shelf.Ren := ⟨fun | 290 => 67 | 324 => 68 | n => n, fun | 37 => 42 | 3 => 3 | 0 => 0 | 4 => 4 | 20 => 20 | 75 => 153 | 5 => 5 | 80 => 49 | 9 => 9 | n => n, fun | 14 => 3 | n => n⟩
theorem Tryz.laysM290 : Go.Proofs.LaysM.n290 Tryz.prog Tryz.laysM290_ren := {
  mixed := by kernel_rfl
  f290 := Tryz.func67.trans (congrArg some (by kernel_rfl))
  f324 := Tryz.func68.trans (congrArg some (by kernel_rfl))
  t0 := Tryz.underlying0
  a0 := Tryz.isAgg0
  z0 := Tryz.sizeOf0
  v0 := Tryz.zeroValue0
  t3 := Tryz.underlying3
  a3 := Tryz.isAgg3
  z3 := Tryz.sizeOf3
  v3 := Tryz.zeroValue3
  t4 := Tryz.underlying4
  a4 := Tryz.isAgg4
  z4 := Tryz.sizeOf4
  v4 := Tryz.zeroValue4
  t20 := Tryz.underlying20
  a20 := Tryz.isAgg20
  z20 := Tryz.sizeOf20
  v20 := Tryz.zeroValue20
  t37 := Tryz.underlying42
  a37 := Tryz.isAgg42
  z37 := Tryz.sizeOf42
  v37 := Tryz.zeroValue42
  t75 := Tryz.underlying153
  a75 := Tryz.isAgg153
  z75 := Tryz.sizeOf153
  v75 := Tryz.zeroValue153
  g14 := by kernel_rfl
  t5 := Tryz.underlying5
  a5 := Tryz.isAgg5
  z5 := Tryz.sizeOf5
  v5 := Tryz.zeroValue5
  t9 := Tryz.underlying9
  a9 := Tryz.isAgg9
  z9 := Tryz.sizeOf9
  v9 := Tryz.zeroValue9
  t80 := Tryz.underlying49
  a80 := Tryz.isAgg49
  z80 := Tryz.sizeOf49
  v80 := Tryz.zeroValue49
  i0 := by kernel_rfl
  i3 := by kernel_rfl
  i4 := by kernel_rfl
  i5 := by kernel_rfl
  i9 := by kernel_rfl
  i20 := by kernel_rfl
  i37 := by kernel_rfl
  i75 := by kernel_rfl
  i80 := by kernel_rfl
  m14 := by kernel_rfl }
open Go.RowKit in
theorem Tryz.bytes_growSlice_row (g l c n : Nat) (cur : Array Value) (w : World) (hg : w.heap[g]? = some (.cells cur 5 (0, 0))) (hcs : cur.size = c) (hlc : l ≤ c) (hn : 1 ≤ n) (hlim : l + n ≤ 140737488355328) (hc2 : c ≤ 140737488355328) (h1 : ∀ v ∈ cur.toList.take l, v.oneCell' = true) :
    Calls Tryz.prog 67 #[.slice (some ⟨g, 0, none⟩) l c, .int .i64 n] w fun e w' => ∃ cap2 cells, e = .returned (.slice (some ⟨w.heap.size, 0, none⟩) l cap2) ∧ w'.heap[w.heap.size]? = some (.cells cells 5 (0, 0)) ∧
      cells.size = cap2 ∧ cells.toList.take l = cur.toList.take l ∧ l + n ≤ cap2 ∧ cap2 ≤ maxLen ∧ Below w.heap.size w w' := Any.bytes_growSlice_row Tryz.laysM290 g l c n cur w hg hcs hlc hn hlim hc2 h1
open Go.RowKit in
theorem Tryz.bytes_growSlice_nil (n : Nat) (w : World) (hn : 1 ≤ n) (hlim : n ≤ 140737488355328) :
    Calls Tryz.prog 67 #[.slice none 0 0, .int .i64 n] w fun e w' => ∃ cap2 cells, e = .returned (.slice (some ⟨w.heap.size, 0, none⟩) 0 cap2) ∧ w'.heap[w.heap.size]? = some (.cells cells 5 (0, 0)) ∧
      cells.size = cap2 ∧ n ≤ cap2 ∧ cap2 ≤ maxLen ∧ Below w.heap.size w w' := Any.bytes_growSlice_nil Tryz.laysM290 n w hn hlim
def Tryz.laysM182_ren : Go.Shelf.Ren := ⟨fun | 182 => 16 | n => n, fun | 130 => 48 | 9 => 9 | 4 => 4 | 0 => 0 | 93 => 46 | 37 => 42 | 3 => 3 | 91 => 44 | 5 => 5 | n => n, fun | n => n⟩
theorem Tryz.laysM182 : Go.Proofs.LaysM.n182 Tryz.prog Tryz.laysM182_ren := {
  mixed := by kernel_rfl
  f182 := Tryz.func16.trans (congrArg some (by kernel_rfl))
  t0 := Tryz.underlying0
  a0 := Tryz.isAgg0
  z0 := Tryz.sizeOf0
  v0 := Tryz.zeroValue0
  t3 := Tryz.underlying3
  a3 := Tryz.isAgg3
  z3 := Tryz.sizeOf3
  v3 := Tryz.zeroValue3
  t4 := Tryz.underlying4
  a4 := Tryz.isAgg4
  z4 := Tryz.sizeOf4
  v4 := Tryz.zeroValue4
  t9 := Tryz.underlying9
  a9 := Tryz.isAgg9
  z9 := Tryz.sizeOf9
  v9 := Tryz.zeroValue9
  t37 := Tryz.underlying42
  a37 := Tryz.isAgg42
  z37 := Tryz.sizeOf42
  v37 := Tryz.zeroValue42
  t93 := Tryz.underlying46
  a93 := Tryz.isAgg46
  z93 := Tryz.sizeOf46
  v93 := Tryz.zeroValue46
  t130 := Tryz.underlying48
  a130 := Tryz.isAgg48
  z130 := Tryz.sizeOf48
  v130 := Tryz.zeroValue48
  t5 := Tryz.underlying5
  a5 := Tryz.isAgg5
  z5 := Tryz.sizeOf5
  v5 := Tryz.zeroValue5
  t91 := Tryz.underlying44
  a91 := Tryz.isAgg44
  z91 := Tryz.sizeOf44
  v91 := Tryz.zeroValue44
  i0 := by kernel_rfl
  i3 := by kernel_rfl
  i4 := by kernel_rfl
  i5 := by kernel_rfl
  i9 := by kernel_rfl
  i37 := by kernel_rfl
  i91 := by kernel_rfl
  i93 := by kernel_rfl
  i130 := by kernel_rfl }
open Go.RowKit in
theorem Tryz.Buffer_String (B b : Nat) (l : List UInt8) (w : World) (h : Lib.IsBuffer 46 5 B b (Lib.byteCells l) w) :
    Calls Tryz.prog 16 #[.pointer (some ⟨b, 0, none⟩)] w fun e w' => e = .returned (.string ⟨l.toArray⟩) ∧ ∃ n, w' = w.drewN n := Any.Buffer_String Tryz.laysM182 B b l w h
def Tryz.lays217_ren : Go.Shelf.Ren := ⟨fun | 217 => 12 | 266 => 18 | n => n, fun | 9 => 9 | 5 => 5 | 3 => 3 | n => n, fun | n => n⟩
theorem Tryz.lays217 : Go.Proofs.Lays.n217 Tryz.prog Tryz.lays217_ren := {
  mixed := by kernel_rfl
  f217 := Tryz.func12.trans (congrArg some (by kernel_rfl))
  f266 := Tryz.func18.trans (congrArg some (by kernel_rfl))
  t3 := Tryz.underlying3
  a3 := Tryz.isAgg3
  z3 := Tryz.sizeOf3
  v3 := Tryz.zeroValue3
  t5 := Tryz.underlying5
  a5 := Tryz.isAgg5
  z5 := Tryz.sizeOf5
  v5 := Tryz.zeroValue5
  t9 := Tryz.underlying9
  a9 := Tryz.isAgg9
  z9 := Tryz.sizeOf9
  v9 := Tryz.zeroValue9 }
open Go.RowKit Go.Lib in
theorem Tryz.stringslite_IndexByte (s : ByteArray) (c : Int) (w : World) :
    Calls Tryz.prog 12 #[.string s, .int .u8 c] w fun e w' => e = .returned (.int .i64 (Lib.indexByte s.data.toList c.toNat.toUInt8)) ∧ w' = w := Any.stringslite_IndexByte Tryz.lays217 s c w
def Tryz.laysM252_ren : Go.Shelf.Ren := ⟨fun | 252 => 65 | 181 => 66 | 184 => 55 | 251 => 64 | 290 => 67 | 324 => 68 | n => n, fun | 130 => 48 | 3 => 3 | 4 => 4 | 0 => 0 | 93 => 46 | 131 => 121 | 37 => 42 | 75 => 153 | 91 => 44 | 20 => 20 | 5 => 5 | 80 => 49 | 9 => 9 | n => n, fun | 14 => 3 | n => n⟩
theorem Tryz.laysM252 : Go.Proofs.LaysM.n252 Tryz.prog Tryz.laysM252_ren := {
  mixed := by kernel_rfl
  f181 := Tryz.func66.trans (congrArg some (by kernel_rfl))
  f184 := Tryz.func55.trans (congrArg some (by kernel_rfl))
  f251 := Tryz.func64.trans (congrArg some (by kernel_rfl))
  f252 := Tryz.func65.trans (congrArg some (by kernel_rfl))
  f290 := Tryz.func67.trans (congrArg some (by kernel_rfl))
  f324 := Tryz.func68.trans (congrArg some (by kernel_rfl))
  t0 := Tryz.underlying0
  a0 := Tryz.isAgg0
  z0 := Tryz.sizeOf0
  v0 := Tryz.zeroValue0
  t3 := Tryz.underlying3
  a3 := Tryz.isAgg3
  z3 := Tryz.sizeOf3
  v3 := Tryz.zeroValue3
  t4 := Tryz.underlying4
  a4 := Tryz.isAgg4
  z4 := Tryz.sizeOf4
  v4 := Tryz.zeroValue4
  t20 := Tryz.underlying20
  a20 := Tryz.isAgg20
  z20 := Tryz.sizeOf20
  v20 := Tryz.zeroValue20
  t37 := Tryz.underlying42
  a37 := Tryz.isAgg42
  z37 := Tryz.sizeOf42
  v37 := Tryz.zeroValue42
  t75 := Tryz.underlying153
  a75 := Tryz.isAgg153
  z75 := Tryz.sizeOf153
  v75 := Tryz.zeroValue153
  t91 := Tryz.underlying44
  a91 := Tryz.isAgg44
  z91 := Tryz.sizeOf44
  v91 := Tryz.zeroValue44
  t93 := Tryz.underlying46
  a93 := Tryz.isAgg46
  z93 := Tryz.sizeOf46
  v93 := Tryz.zeroValue46
  t130 := Tryz.underlying48
  a130 := Tryz.isAgg48
  z130 := Tryz.sizeOf48
  v130 := Tryz.zeroValue48
  t131 := Tryz.underlying121
  a131 := Tryz.isAgg121
  z131 := Tryz.sizeOf121
  v131 := Tryz.zeroValue121
  g14 := by kernel_rfl
  t5 := Tryz.underlying5
  a5 := Tryz.isAgg5
  z5 := Tryz.sizeOf5
  v5 := Tryz.zeroValue5
  t9 := Tryz.underlying9
  a9 := Tryz.isAgg9
  z9 := Tryz.sizeOf9
  v9 := Tryz.zeroValue9
  t80 := Tryz.underlying49
  a80 := Tryz.isAgg49
  z80 := Tryz.sizeOf49
  v80 := Tryz.zeroValue49
  i0 := by kernel_rfl
  i3 := by kernel_rfl
  i4 := by kernel_rfl
  i5 := by kernel_rfl
  i9 := by kernel_rfl
  i20 := by kernel_rfl
  i37 := by kernel_rfl
  i75 := by kernel_rfl
  i80 := by kernel_rfl
  i91 := by kernel_rfl
  i93 := by kernel_rfl
  i130 := by kernel_rfl
  i131 := by kernel_rfl
  m14 := by kernel_rfl }
open Go.RowKit in
theorem Tryz.Buffer_grow_row0_kept (B b g cap n : Nat) (lr : Int) (cur : Array Value) (bs : List Value) (w : World) (hB : B ≤ b) (hBw : B ≤ w.heap.size) (hbk : w.heap[b]? = some (.cells #[.slice (some ⟨g, 0, none⟩) 0 cap, .int .i64 0, .int .i8 lr] 46 (0, 0))) (hl : bs.length = 0) (hBg : B ≤ g) (hg : w.heap[g]? = some (.cells cur 5 (0, 0))) (hlc : 0 ≤ cap) (hcm : cap ≤ maxLen) (hcs : cur.size = cap) (htake : cur.toList.take 0 = bs) (hgb : g ≠ b) (h1 : ∀ v ∈ bs, v.oneCell' = true) (hn : 1 ≤ n) (hroom : cap - 0 < n) (hlim : 0 + n ≤ 140737488355328) :
    Calls Tryz.prog 65 #[.pointer (some ⟨b, 0, none⟩), .int .i64 n] w fun e w' => e = .returned (.int .i64 0) ∧ ∃ xs, xs.length = n ∧ Lib.IsBuffer 46 5 B b (bs ++ xs) w' ∧ Below B w w' ∧ Lib.OthersKept 5 (some b) w w' := Any.Buffer_grow_row0_kept Tryz.laysM252 B b g cap n lr cur bs w hB hBw hbk hl hBg hg hlc hcm hcs htake hgb h1 hn hroom hlim
open Go.RowKit in
theorem Tryz.Buffer_grow_row_kept (B b g l cap n : Nat) (lr : Int) (cur : Array Value) (bs : List Value) (w : World) (hB : B ≤ b) (hBw : B ≤ w.heap.size) (hbk : w.heap[b]? = some (.cells #[.slice (some ⟨g, 0, none⟩) l cap, .int .i64 0, .int .i8 lr] 46 (0, 0))) (hl : bs.length = l) (hBg : B ≤ g) (hg : w.heap[g]? = some (.cells cur 5 (0, 0))) (hlc : l ≤ cap) (hcm : cap ≤ maxLen) (hcs : cur.size = cap) (htake : cur.toList.take l = bs) (hgb : g ≠ b) (h1 : ∀ v ∈ bs, v.oneCell' = true) (hn : 1 ≤ n) (hroom : cap - l < n) (hlim : l + n ≤ 140737488355328) :
    Calls Tryz.prog 65 #[.pointer (some ⟨b, 0, none⟩), .int .i64 n] w fun e w' => e = .returned (.int .i64 l) ∧ ∃ xs, xs.length = n ∧ Lib.IsBuffer 46 5 B b (bs ++ xs) w' ∧ Below B w w' ∧ Lib.OthersKept 5 (some b) w w' := Any.Buffer_grow_row_kept Tryz.laysM252 B b g l cap n lr cur bs w hB hBw hbk hl hBg hg hlc hcm hcs htake hgb h1 hn hroom hlim
open Go.RowKit in
theorem Tryz.Buffer_grow_nil_small_kept (B b n : Nat) (lr : Int) (w : World) (hB : B ≤ b) (hBw : B ≤ w.heap.size) (hbk : w.heap[b]? = some (.cells #[.slice none 0 0, .int .i64 0, .int .i8 lr] 46 (0, 0))) (hn : 1 ≤ n) (h64 : n ≤ 64) :
    Calls Tryz.prog 65 #[.pointer (some ⟨b, 0, none⟩), .int .i64 n] w fun e w' => e = .returned (.int .i64 0) ∧ ∃ xs, xs.length = n ∧ Lib.IsBuffer 46 5 B b xs w' ∧ Below B w w' ∧ Lib.OthersKept 5 (some b) w w' := Any.Buffer_grow_nil_small_kept Tryz.laysM252 B b n lr w hB hBw hbk hn h64
open Go.RowKit in
theorem Tryz.Buffer_grow_nil_big_kept (B b n : Nat) (lr : Int) (w : World) (hB : B ≤ b) (hBw : B ≤ w.heap.size) (hbk : w.heap[b]? = some (.cells #[.slice none 0 0, .int .i64 0, .int .i8 lr] 46 (0, 0))) (h64 : 64 < n) (hlim : n ≤ 140737488355328) :
    Calls Tryz.prog 65 #[.pointer (some ⟨b, 0, none⟩), .int .i64 n] w fun e w' => e = .returned (.int .i64 0) ∧ ∃ xs, xs.length = n ∧ Lib.IsBuffer 46 5 B b xs w' ∧ Below B w w' ∧ Lib.OthersKept 5 (some b) w w' := Any.Buffer_grow_nil_big_kept Tryz.laysM252 B b n lr w hB hBw hbk h64 hlim
open Go.RowKit in
theorem Tryz.Buffer_tryGrow_kept (B b n : Nat) (bs : List Value) (w : World) (h : Lib.IsBuffer 46 5 B b bs w) :
    Calls Tryz.prog 64 #[.pointer (some ⟨b, 0, none⟩), .int .i64 n] w fun e w' =>
      (e = .returned (.tuple #[.int .i64 bs.length, .bool true]) ∧ ∃ xs, xs.length = n ∧ Lib.IsBuffer 46 5 B b (bs ++ xs) w' ∧ Below B w w' ∧ Lib.OthersKept 5 (some b) w w') ∨
      (e = .returned (.tuple #[.int .i64 0, .bool false]) ∧ w' = w ∧ Lib.NoRoom b n w) := Any.Buffer_tryGrow_kept Tryz.laysM251 B b n bs w h
open Go.RowKit in
theorem Tryz.Buffer_grow_kept (B b n : Nat) (bs : List Value) (w : World) (h : Lib.IsBuffer 46 5 B b bs w) (hnr : Lib.NoRoom b n w) (hBw : B ≤ w.heap.size) (h1 : ∀ v ∈ bs, v.oneCell' = true) (hlim : bs.length + n ≤ 140737488355328) :
    Calls Tryz.prog 65 #[.pointer (some ⟨b, 0, none⟩), .int .i64 n] w fun e w' => e = .returned (.int .i64 bs.length) ∧ ∃ xs, xs.length = n ∧ Lib.IsBuffer 46 5 B b (bs ++ xs) w' ∧ Below B w w' ∧ Lib.OthersKept 5 (some b) w w' := Any.Buffer_grow_kept Tryz.laysM252 B b n bs w h hnr hBw h1 hlim
def Tryz.laysM179_ren : Go.Shelf.Ren := ⟨fun | 179 => 63 | 251 => 64 | 252 => 65 | 181 => 66 | 184 => 55 | 290 => 67 | 324 => 68 | n => n, fun | 130 => 48 | 5 => 5 | 75 => 153 | 0 => 0 | 93 => 46 | 91 => 44 | 3 => 3 | 131 => 121 | 4 => 4 | 37 => 42 | 20 => 20 | 80 => 49 | 9 => 9 | n => n, fun | 14 => 3 | n => n⟩
theorem Tryz.laysM179 : Go.Proofs.LaysM.n179 Tryz.prog Tryz.laysM179_ren := {
  mixed := by kernel_rfl
  f179 := Tryz.func63.trans (congrArg some (by kernel_rfl))
  f181 := Tryz.func66.trans (congrArg some (by kernel_rfl))
  f184 := Tryz.func55.trans (congrArg some (by kernel_rfl))
  f251 := Tryz.func64.trans (congrArg some (by kernel_rfl))
  f252 := Tryz.func65.trans (congrArg some (by kernel_rfl))
  f290 := Tryz.func67.trans (congrArg some (by kernel_rfl))
  f324 := Tryz.func68.trans (congrArg some (by kernel_rfl))
  t0 := Tryz.underlying0
  a0 := Tryz.isAgg0
  z0 := Tryz.sizeOf0
  v0 := Tryz.zeroValue0
  t3 := Tryz.underlying3
  a3 := Tryz.isAgg3
  z3 := Tryz.sizeOf3
  v3 := Tryz.zeroValue3
  t4 := Tryz.underlying4
  a4 := Tryz.isAgg4
  z4 := Tryz.sizeOf4
  v4 := Tryz.zeroValue4
  t5 := Tryz.underlying5
  a5 := Tryz.isAgg5
  z5 := Tryz.sizeOf5
  v5 := Tryz.zeroValue5
  t20 := Tryz.underlying20
  a20 := Tryz.isAgg20
  z20 := Tryz.sizeOf20
  v20 := Tryz.zeroValue20
  t37 := Tryz.underlying42
  a37 := Tryz.isAgg42
  z37 := Tryz.sizeOf42
  v37 := Tryz.zeroValue42
  t75 := Tryz.underlying153
  a75 := Tryz.isAgg153
  z75 := Tryz.sizeOf153
  v75 := Tryz.zeroValue153
  t91 := Tryz.underlying44
  a91 := Tryz.isAgg44
  z91 := Tryz.sizeOf44
  v91 := Tryz.zeroValue44
  t93 := Tryz.underlying46
  a93 := Tryz.isAgg46
  z93 := Tryz.sizeOf46
  v93 := Tryz.zeroValue46
  t130 := Tryz.underlying48
  a130 := Tryz.isAgg48
  z130 := Tryz.sizeOf48
  v130 := Tryz.zeroValue48
  t131 := Tryz.underlying121
  a131 := Tryz.isAgg121
  z131 := Tryz.sizeOf121
  v131 := Tryz.zeroValue121
  g14 := by kernel_rfl
  t9 := Tryz.underlying9
  a9 := Tryz.isAgg9
  z9 := Tryz.sizeOf9
  v9 := Tryz.zeroValue9
  t80 := Tryz.underlying49
  a80 := Tryz.isAgg49
  z80 := Tryz.sizeOf49
  v80 := Tryz.zeroValue49
  i0 := by kernel_rfl
  i3 := by kernel_rfl
  i4 := by kernel_rfl
  i5 := by kernel_rfl
  i9 := by kernel_rfl
  i20 := by kernel_rfl
  i37 := by kernel_rfl
  i75 := by kernel_rfl
  i80 := by kernel_rfl
  i91 := by kernel_rfl
  i93 := by kernel_rfl
  i130 := by kernel_rfl
  i131 := by kernel_rfl
  m14 := by kernel_rfl }
open Go.RowKit in
theorem Tryz.Buffer_WriteByte_kept (B b : Nat) (bs : List Value) (c : Int) (w : World) (h : Lib.IsBuffer 46 5 B b bs w) (hBw : B ≤ w.heap.size) (h1 : ∀ v ∈ bs, v.oneCell' = true) (hlim : bs.length + 1 ≤ 140737488355328) :
    Calls Tryz.prog 63 #[.pointer (some ⟨b, 0, none⟩), .int .u8 c] w fun e w' => e = .returned .nilIface ∧ Lib.IsBuffer 46 5 B b (bs ++ [.int .u8 c]) w' ∧ Below B w w' ∧ Lib.OthersKept 5 (some b) w w' := Any.Buffer_WriteByte_kept Tryz.laysM179 B b bs c w h hBw h1 hlim
def Tryz.laysM178_ren : Go.Shelf.Ren := ⟨fun | 178 => 62 | 251 => 64 | 252 => 65 | 181 => 66 | 184 => 55 | 290 => 67 | 324 => 68 | n => n, fun | 130 => 48 | 9 => 9 | 3 => 3 | 75 => 153 | 0 => 0 | 93 => 46 | 91 => 44 | 131 => 121 | 4 => 4 | 37 => 42 | 20 => 20 | 80 => 49 | 5 => 5 | n => n, fun | 14 => 3 | n => n⟩
theorem Tryz.laysM178 : Go.Proofs.LaysM.n178 Tryz.prog Tryz.laysM178_ren := {
  mixed := by kernel_rfl
  f178 := Tryz.func62.trans (congrArg some (by kernel_rfl))
  f181 := Tryz.func66.trans (congrArg some (by kernel_rfl))
  f184 := Tryz.func55.trans (congrArg some (by kernel_rfl))
  f251 := Tryz.func64.trans (congrArg some (by kernel_rfl))
  f252 := Tryz.func65.trans (congrArg some (by kernel_rfl))
  f290 := Tryz.func67.trans (congrArg some (by kernel_rfl))
  f324 := Tryz.func68.trans (congrArg some (by kernel_rfl))
  t0 := Tryz.underlying0
  a0 := Tryz.isAgg0
  z0 := Tryz.sizeOf0
  v0 := Tryz.zeroValue0
  t3 := Tryz.underlying3
  a3 := Tryz.isAgg3
  z3 := Tryz.sizeOf3
  v3 := Tryz.zeroValue3
  t4 := Tryz.underlying4
  a4 := Tryz.isAgg4
  z4 := Tryz.sizeOf4
  v4 := Tryz.zeroValue4
  t9 := Tryz.underlying9
  a9 := Tryz.isAgg9
  z9 := Tryz.sizeOf9
  v9 := Tryz.zeroValue9
  t20 := Tryz.underlying20
  a20 := Tryz.isAgg20
  z20 := Tryz.sizeOf20
  v20 := Tryz.zeroValue20
  t37 := Tryz.underlying42
  a37 := Tryz.isAgg42
  z37 := Tryz.sizeOf42
  v37 := Tryz.zeroValue42
  t75 := Tryz.underlying153
  a75 := Tryz.isAgg153
  z75 := Tryz.sizeOf153
  v75 := Tryz.zeroValue153
  t91 := Tryz.underlying44
  a91 := Tryz.isAgg44
  z91 := Tryz.sizeOf44
  v91 := Tryz.zeroValue44
  t93 := Tryz.underlying46
  a93 := Tryz.isAgg46
  z93 := Tryz.sizeOf46
  v93 := Tryz.zeroValue46
  t130 := Tryz.underlying48
  a130 := Tryz.isAgg48
  z130 := Tryz.sizeOf48
  v130 := Tryz.zeroValue48
  t131 := Tryz.underlying121
  a131 := Tryz.isAgg121
  z131 := Tryz.sizeOf121
  v131 := Tryz.zeroValue121
  g14 := by kernel_rfl
  t5 := Tryz.underlying5
  a5 := Tryz.isAgg5
  z5 := Tryz.sizeOf5
  v5 := Tryz.zeroValue5
  t80 := Tryz.underlying49
  a80 := Tryz.isAgg49
  z80 := Tryz.sizeOf49
  v80 := Tryz.zeroValue49
  i0 := by kernel_rfl
  i3 := by kernel_rfl
  i4 := by kernel_rfl
  i5 := by kernel_rfl
  i9 := by kernel_rfl
  i20 := by kernel_rfl
  i37 := by kernel_rfl
  i75 := by kernel_rfl
  i80 := by kernel_rfl
  i91 := by kernel_rfl
  i93 := by kernel_rfl
  i130 := by kernel_rfl
  i131 := by kernel_rfl
  m14 := by kernel_rfl }
open Go.RowKit in
theorem Tryz.Buffer_WriteString_kept (B b : Nat) (bs : List Value) (s : ByteArray) (w : World) (h : Lib.IsBuffer 46 5 B b bs w) (hBw : B ≤ w.heap.size) (h1 : ∀ v ∈ bs, v.oneCell' = true) (hlim : bs.length + s.size ≤ 140737488355328) :
    Calls Tryz.prog 62 #[.pointer (some ⟨b, 0, none⟩), .string s] w fun e w' => e = .returned (.tuple #[.int .i64 s.size, .nilIface]) ∧ Lib.IsBuffer 46 5 B b (bs ++ Lib.byteCells s.data.toList) w' ∧ Below B w w' ∧ Lib.OthersKept 5 (some b) w w' := Any.Buffer_WriteString_kept Tryz.laysM178 B b bs s w h hBw h1 hlim
def Tryz.laysM184_ren : Go.Shelf.Ren := ⟨fun | 184 => 55 | n => n, fun | 130 => 48 | 0 => 0 | 93 => 46 | 37 => 42 | 3 => 3 | 91 => 44 | 5 => 5 | n => n, fun | n => n⟩
theorem Tryz.laysM184 : Go.Proofs.LaysM.n184 Tryz.prog Tryz.laysM184_ren := {
  mixed := by kernel_rfl
  f184 := Tryz.func55.trans (congrArg some (by kernel_rfl))
  t0 := Tryz.underlying0
  a0 := Tryz.isAgg0
  z0 := Tryz.sizeOf0
  v0 := Tryz.zeroValue0
  t3 := Tryz.underlying3
  a3 := Tryz.isAgg3
  z3 := Tryz.sizeOf3
  v3 := Tryz.zeroValue3
  t37 := Tryz.underlying42
  a37 := Tryz.isAgg42
  z37 := Tryz.sizeOf42
  v37 := Tryz.zeroValue42
  t91 := Tryz.underlying44
  a91 := Tryz.isAgg44
  z91 := Tryz.sizeOf44
  v91 := Tryz.zeroValue44
  t93 := Tryz.underlying46
  a93 := Tryz.isAgg46
  z93 := Tryz.sizeOf46
  v93 := Tryz.zeroValue46
  t130 := Tryz.underlying48
  a130 := Tryz.isAgg48
  z130 := Tryz.sizeOf48
  v130 := Tryz.zeroValue48
  t5 := Tryz.underlying5
  a5 := Tryz.isAgg5
  z5 := Tryz.sizeOf5
  v5 := Tryz.zeroValue5
  i0 := by kernel_rfl
  i3 := by kernel_rfl
  i5 := by kernel_rfl
  i37 := by kernel_rfl
  i91 := by kernel_rfl
  i93 := by kernel_rfl
  i130 := by kernel_rfl }
open Go.RowKit in
theorem Tryz.Buffer_Reset_kept (B b : Nat) (bs : List Value) (w : World) (h : Lib.IsBuffer 46 5 B b bs w) :
    Calls Tryz.prog 55 #[.pointer (some ⟨b, 0, none⟩)] w fun e w' => e = .returned (.tuple #[]) ∧ Lib.IsBuffer 46 5 B b [] w' ∧ Below B w w' ∧ Lib.OthersKept 5 (some b) w w' := Any.Buffer_Reset_kept Tryz.laysM184 B b bs w h
open Go.RowKit in
theorem Tryz.Buffer_WriteByte_k (B b : Nat) (bs : List Value) (c : Int) (w : World) (h : Lib.IsBuffer 46 5 B b bs w) (hBw : B ≤ w.heap.size) (h1 : ∀ v ∈ bs, v.oneCell' = true) (hlim : bs.length + 1 ≤ 140737488355328) :
    Calls Tryz.prog 63 #[.pointer (some ⟨b, 0, none⟩), .int .u8 c] w fun e w' => e = .returned .nilIface ∧ Lib.IsBuffer 46 5 B b (bs ++ [.int .u8 c]) w' ∧ Below B w w' ∧ Lib.OthersKept 5 (some b) w w' := Any.Buffer_WriteByte_k Tryz.laysM179 B b bs c w h hBw h1 hlim
open Go.RowKit in
theorem Tryz.Buffer_WriteString_k (B b : Nat) (bs : List Value) (s : ByteArray) (w : World) (h : Lib.IsBuffer 46 5 B b bs w) (hBw : B ≤ w.heap.size) (h1 : ∀ v ∈ bs, v.oneCell' = true) (hlim : bs.length + s.size ≤ 140737488355328) :
    Calls Tryz.prog 62 #[.pointer (some ⟨b, 0, none⟩), .string s] w fun e w' => e = .returned (.tuple #[.int .i64 s.size, .nilIface]) ∧ Lib.IsBuffer 46 5 B b (bs ++ Lib.byteCells s.data.toList) w' ∧ Below B w w' ∧ Lib.OthersKept 5 (some b) w w' := Any.Buffer_WriteString_k Tryz.laysM178 B b bs s w h hBw h1 hlim
open Go.RowKit in
theorem Tryz.Buffer_Reset_k (B b : Nat) (bs : List Value) (w : World) (h : Lib.IsBuffer 46 5 B b bs w) :
    Calls Tryz.prog 55 #[.pointer (some ⟨b, 0, none⟩)] w fun e w' => e = .returned (.tuple #[]) ∧ Lib.IsBuffer 46 5 B b [] w' ∧ Below B w w' ∧ Lib.OthersKept 5 (some b) w w' := Any.Buffer_Reset_k Tryz.laysM184 B b bs w h
def Tryz.lays197_ren : Go.Shelf.Ren := ⟨fun | 197 => 35 | 260 => 37 | n => n, fun | 9 => 9 | 21 => 21 | 3 => 3 | 4 => 4 | 5 => 5 | 105 => 123 | 119 => 126 | 0 => 0 | 46 => 127 | 139 => 130 | 138 => 129 | n => n, fun | 3 => 1 | 4 => 2 | n => n⟩
theorem Tryz.lays197 : Go.Proofs.Lays.n197 Tryz.prog Tryz.lays197_ren := {
  mixed := by kernel_rfl
  f197 := Tryz.func35.trans (congrArg some (by kernel_rfl))
  f260 := Tryz.func37.trans (congrArg some (by kernel_rfl))
  t0 := Tryz.underlying0
  a0 := Tryz.isAgg0
  z0 := Tryz.sizeOf0
  v0 := Tryz.zeroValue0
  t3 := Tryz.underlying3
  a3 := Tryz.isAgg3
  z3 := Tryz.sizeOf3
  v3 := Tryz.zeroValue3
  t4 := Tryz.underlying4
  a4 := Tryz.isAgg4
  z4 := Tryz.sizeOf4
  v4 := Tryz.zeroValue4
  t5 := Tryz.underlying5
  a5 := Tryz.isAgg5
  z5 := Tryz.sizeOf5
  v5 := Tryz.zeroValue5
  t9 := Tryz.underlying9
  a9 := Tryz.isAgg9
  z9 := Tryz.sizeOf9
  v9 := Tryz.zeroValue9
  t21 := Tryz.underlying21
  a21 := Tryz.isAgg21
  z21 := Tryz.sizeOf21
  v21 := Tryz.zeroValue21
  t46 := Tryz.underlying127
  a46 := Tryz.isAgg127
  z46 := Tryz.sizeOf127
  v46 := Tryz.zeroValue127
  t105 := Tryz.underlying123
  a105 := Tryz.isAgg123
  z105 := Tryz.sizeOf123
  v105 := Tryz.zeroValue123
  t119 := Tryz.underlying126
  a119 := Tryz.isAgg126
  z119 := Tryz.sizeOf126
  t138 := Tryz.underlying129
  a138 := Tryz.isAgg129
  z138 := Tryz.sizeOf129
  v138 := Tryz.zeroValue129
  t139 := Tryz.underlying130
  a139 := Tryz.isAgg130
  z139 := Tryz.sizeOf130
  v139 := Tryz.zeroValue130
  g3 := by kernel_rfl
  g4 := by kernel_rfl }
open Go.RowKit Go.Lib in
theorem Tryz.utf8_DecodeRuneInString_ascii (s : ByteArray) (x : UInt8) (w : World) (h0 : s.data.toList[0]? = some x) (hx : x.toNat < 128) :
    Calls Tryz.prog 35 #[.string s] w fun e w' => e = .returned (.tuple #[.int .i32 x.toNat, .int .i64 1]) ∧ w' = w := Any.utf8_DecodeRuneInString_ascii Tryz.lays197 s x w h0 hx
end Go.Proofs
