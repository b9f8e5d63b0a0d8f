/- The shelf's contracts of the library's functions, laid at this program by the guide's own commands (plain words). -/
import Derived.Shelf.Small.Strs
import Derived.Shelf.Strconv.Itoa0
import Derived.Shelf.Strconv.Itoa1
import Derived.Shelf.LaysM
import Derived.Shelf.Strconv.Itoa2
import Derived.Shelf.Strconv.Itoa3
import Derived.Shelf.Bytes.Len
import Derived.Shelf.Bytes.TryGrow
import Derived.Shelf.Bytes.GrowSliceCatch
import Derived.Shelf.Bytes.GrowSlice
import Derived.Shelf.Bytes.String
import Derived.Shelf.Bytes.Bytes
import Derived.Shelf.Strings.Search1
import Derived.Shelf.Bytes.GrowRow0Kept
import Derived.Shelf.Bytes.GrowRowKept
import Derived.Shelf.Bytes.GrowNilKept
import Derived.Shelf.Bytes.GrowKept
import Derived.Shelf.Bytes.WriteByteKept
import Derived.Shelf.Bytes.WriteStringKept
import Derived.Shelf.Bytes.ResetKept
import Derived.Shelf.Bytes.BufferK
import Derived.Shelf.Strings.Prefix
import Derived.Shelf.Unicode.Decode
import Derived.Shelf.Unicode.DecodeSlow
import Derived.Test.YtnocllocnoodnaaGreatDoorProg
namespace Go.Proofs
open Go.Shelf
def Tryz.lays137_ren : Go.Shelf.Ren := ⟨fun | 137 => 42 | 217 => 44 | 266 => 46 | n => n, fun | 9 => 9 | 5 => 5 | 3 => 3 | n => n, fun | n => n⟩
theorem Tryz.lays137 : Go.Proofs.Lays.n137 Tryz.prog Tryz.lays137_ren := {
  mixed := by kernel_rfl
  f137 := Tryz.func42.trans (congrArg some (by kernel_rfl))
  f217 := Tryz.func44.trans (congrArg some (by kernel_rfl))
  f266 := Tryz.func46.trans (congrArg some (by kernel_rfl))
  t3 := Tryz.underlying3
  a3 := Tryz.isAgg3
  z3 := Tryz.sizeOf3
  v3 := Tryz.zeroValue3
  t5 := Tryz.underlying5
  a5 := Tryz.isAgg5
  z5 := Tryz.sizeOf5
  v5 := Tryz.zeroValue5
  t9 := Tryz.underlying9
  a9 := Tryz.isAgg9
  z9 := Tryz.sizeOf9
  v9 := Tryz.zeroValue9 }
open Go.RowKit in
theorem Tryz.strings_IndexByte (s : ByteArray) (c : Int) (w : World) :
    Calls Tryz.prog 42 #[.string s, .int .u8 c] w fun e w' => e = .returned (.int .i64 (Lib.indexByte s.data.toList c.toNat.toUInt8)) ∧ w' = w := Any.strings_IndexByte Tryz.lays137 s c w
def Tryz.lays129_ren : Go.Shelf.Ren := ⟨fun | 129 => 84 | n => n, fun | 53 => 200 | 3 => 3 | 4 => 4 | 46 => 127 | 5 => 5 | 9 => 9 | n => n, fun | n => n⟩
theorem Tryz.lays129 : Go.Proofs.Lays.n129 Tryz.prog Tryz.lays129_ren := {
  mixed := by kernel_rfl
  f129 := Tryz.func84.trans (congrArg some (by kernel_rfl))
  t3 := Tryz.underlying3
  a3 := Tryz.isAgg3
  z3 := Tryz.sizeOf3
  v3 := Tryz.zeroValue3
  t4 := Tryz.underlying4
  a4 := Tryz.isAgg4
  z4 := Tryz.sizeOf4
  v4 := Tryz.zeroValue4
  t5 := Tryz.underlying5
  a5 := Tryz.isAgg5
  z5 := Tryz.sizeOf5
  v5 := Tryz.zeroValue5
  t9 := Tryz.underlying9
  a9 := Tryz.isAgg9
  z9 := Tryz.sizeOf9
  v9 := Tryz.zeroValue9
  t46 := Tryz.underlying127
  a46 := Tryz.isAgg127
  z46 := Tryz.sizeOf127
  v46 := Tryz.zeroValue127
  t53 := Tryz.underlying200
  a53 := Tryz.isAgg200
  z53 := Tryz.sizeOf200
  v53 := Tryz.zeroValue200 }
theorem Tryz.bits_Len64 (x : Int) (w : World) (h0 : 0 ≤ x) (h1 : x ≤ 18446744073709551615) :
    Calls Tryz.prog 84 #[.int .u64 x] w fun e w' => e = .returned (.int .i64 (Lib.bitLen x.toNat)) ∧ w' = w := Any.bits_Len64 Tryz.lays129 x w h0 h1
def Tryz.lays317_ren : Go.Shelf.Ren := ⟨fun | 317 => 83 | n => n, fun | 3 => 3 | 46 => 127 | n => n, fun | n => n⟩
theorem Tryz.lays317 : Go.Proofs.Lays.n317 Tryz.prog Tryz.lays317_ren := {
  mixed := by kernel_rfl
  f317 := Tryz.func83.trans (congrArg some (by kernel_rfl))
  t3 := Tryz.underlying3
  a3 := Tryz.isAgg3
  z3 := Tryz.sizeOf3
  v3 := Tryz.zeroValue3
  t46 := Tryz.underlying127
  a46 := Tryz.isAgg127
  z46 := Tryz.sizeOf127
  v46 := Tryz.zeroValue127 }
open Go.Lib in
theorem Tryz.internal_strconv_log10Pow2 (x : Nat) (h : x ≤ 64) (w : World) :
    Calls Tryz.prog 83 #[.int .i64 x] w fun e w' => e = .returned (.int .i64 (Lib.l10 x)) ∧ w' = w := Any.internal_strconv_log10Pow2 Tryz.lays317 x h w
def Tryz.lays318_ren : Go.Shelf.Ren := ⟨fun | 318 => 85 | n => n, fun | 3 => 3 | 4 => 4 | n => n, fun | n => n⟩
theorem Tryz.lays318 : Go.Proofs.Lays.n318 Tryz.prog Tryz.lays318_ren := {
  mixed := by kernel_rfl
  f318 := Tryz.func85.trans (congrArg some (by kernel_rfl))
  t3 := Tryz.underlying3
  a3 := Tryz.isAgg3
  z3 := Tryz.sizeOf3
  v3 := Tryz.zeroValue3
  t4 := Tryz.underlying4
  a4 := Tryz.isAgg4
  z4 := Tryz.sizeOf4
  v4 := Tryz.zeroValue4 }
open Go.Lib in
theorem Tryz.internal_strconv_bool2_int (b : Bool) (w : World) :
    Calls Tryz.prog 85 #[.bool b] w fun e w' => e = .returned (.int .i64 (if b then 1 else 0)) ∧ w' = w := Any.internal_strconv_bool2_int Tryz.lays318 b w
def Tryz.lays283_ren : Go.Shelf.Ren := ⟨fun | 283 => 79 | n => n, fun | 3 => 3 | 9 => 9 | 4 => 4 | n => n, fun | n => n⟩
theorem Tryz.lays283 : Go.Proofs.Lays.n283 Tryz.prog Tryz.lays283_ren := {
  mixed := by kernel_rfl
  f283 := Tryz.func79.trans (congrArg some (by kernel_rfl))
  t3 := Tryz.underlying3
  a3 := Tryz.isAgg3
  z3 := Tryz.sizeOf3
  v3 := Tryz.zeroValue3
  t4 := Tryz.underlying4
  a4 := Tryz.isAgg4
  z4 := Tryz.sizeOf4
  v4 := Tryz.zeroValue4
  t9 := Tryz.underlying9
  a9 := Tryz.isAgg9
  z9 := Tryz.sizeOf9
  v9 := Tryz.zeroValue9 }
open Go.Lib in
theorem Tryz.internal_strconv_small (i : Nat) (h : i < 100) (w : World) :
    Calls Tryz.prog 79 #[.int .i64 i] w fun e w' => e = .returned (.string ⟨(Lib.decDigits i).toArray⟩) ∧ w' = w := Any.internal_strconv_small Tryz.lays283 i h w
def Tryz.laysM284_ren : Go.Shelf.Ren := ⟨fun | 284 => 80 | 129 => 84 | 317 => 83 | 318 => 85 | n => n, fun | 53 => 200 | 3 => 3 | 212 => 206 | 0 => 0 | 4 => 4 | 46 => 127 | 5 => 5 | 9 => 9 | n => n, fun | 17 => 4 | n => n⟩
theorem Tryz.laysM284 : Go.Proofs.LaysM.n284 Tryz.prog Tryz.laysM284_ren := {
  mixed := by kernel_rfl
  f129 := Tryz.func84.trans (congrArg some (by kernel_rfl))
  f284 := Tryz.func80.trans (congrArg some (by kernel_rfl))
  f317 := Tryz.func83.trans (congrArg some (by kernel_rfl))
  f318 := Tryz.func85.trans (congrArg some (by kernel_rfl))
  t0 := Tryz.underlying0
  a0 := Tryz.isAgg0
  z0 := Tryz.sizeOf0
  v0 := Tryz.zeroValue0
  t3 := Tryz.underlying3
  a3 := Tryz.isAgg3
  z3 := Tryz.sizeOf3
  v3 := Tryz.zeroValue3
  t4 := Tryz.underlying4
  a4 := Tryz.isAgg4
  z4 := Tryz.sizeOf4
  v4 := Tryz.zeroValue4
  t5 := Tryz.underlying5
  a5 := Tryz.isAgg5
  z5 := Tryz.sizeOf5
  v5 := Tryz.zeroValue5
  t9 := Tryz.underlying9
  a9 := Tryz.isAgg9
  z9 := Tryz.sizeOf9
  v9 := Tryz.zeroValue9
  t46 := Tryz.underlying127
  a46 := Tryz.isAgg127
  z46 := Tryz.sizeOf127
  v46 := Tryz.zeroValue127
  t53 := Tryz.underlying200
  a53 := Tryz.isAgg200
  z53 := Tryz.sizeOf200
  v53 := Tryz.zeroValue200
  t212 := Tryz.underlying206
  a212 := Tryz.isAgg206
  z212 := Tryz.sizeOf206
  v212 := Tryz.zeroValue206
  g17 := by kernel_rfl
  i0 := by kernel_rfl
  i3 := by kernel_rfl
  i4 := by kernel_rfl
  i5 := by kernel_rfl
  i9 := by kernel_rfl
  i46 := by kernel_rfl
  i53 := by kernel_rfl
  i212 := by kernel_rfl
  m17 := by kernel_rfl }
open Go.Lib in
theorem Tryz.internal_strconv_numDigits (u : Nat) (h1 : 1 ≤ u) (h2 : u < 18446744073709551616) (w : World) (htab : Lib.TabIs Tryz.prog w "internal/strconv.uint64pow10" .u64 Lib.pow10Tab) :
    Calls Tryz.prog 80 #[.int .u64 u] w fun e w' => e = .returned (.int .i64 (Lib.nDigits u)) ∧ w' = w := Any.internal_strconv_numDigits Tryz.laysM284 u h1 h2 w htab
def Tryz.lays285_ren : Go.Shelf.Ren := ⟨fun | 285 => 81 | n => n, fun | 37 => 22 | 53 => 200 | 3 => 3 | 4 => 4 | 51 => 179 | 9 => 9 | 5 => 5 | 0 => 0 | n => n, fun | n => n⟩
theorem Tryz.lays285 : Go.Proofs.Lays.n285 Tryz.prog Tryz.lays285_ren := {
  mixed := by kernel_rfl
  f285 := Tryz.func81.trans (congrArg some (by kernel_rfl))
  t0 := Tryz.underlying0
  a0 := Tryz.isAgg0
  z0 := Tryz.sizeOf0
  v0 := Tryz.zeroValue0
  t3 := Tryz.underlying3
  a3 := Tryz.isAgg3
  z3 := Tryz.sizeOf3
  v3 := Tryz.zeroValue3
  t4 := Tryz.underlying4
  a4 := Tryz.isAgg4
  z4 := Tryz.sizeOf4
  v4 := Tryz.zeroValue4
  t5 := Tryz.underlying5
  a5 := Tryz.isAgg5
  z5 := Tryz.sizeOf5
  v5 := Tryz.zeroValue5
  t9 := Tryz.underlying9
  a9 := Tryz.isAgg9
  z9 := Tryz.sizeOf9
  v9 := Tryz.zeroValue9
  t37 := Tryz.underlying22
  a37 := Tryz.isAgg22
  z37 := Tryz.sizeOf22
  v37 := Tryz.zeroValue22
  t51 := Tryz.underlying179
  a51 := Tryz.isAgg179
  z51 := Tryz.sizeOf179
  v51 := Tryz.zeroValue179
  t53 := Tryz.underlying200
  a53 := Tryz.isAgg200
  z53 := Tryz.sizeOf200
  v53 := Tryz.zeroValue200 }
open Go.RowKit Go.Sort Go.Lib in
theorem Tryz.internal_strconv_formatBase10 (blk off cap : Nat) (u : Nat) (d : Array UInt8) (w : World) (hH : Holds (fun (b : UInt8) => Value.int .u8 (b.toNat : Int)) w blk off d) (hu : u < 10 ^ d.size) (hu64 : u < 18446744073709551616) (hsz : d.size < 4611686018427387904) :
    Calls Tryz.prog 81 #[.slice (some ⟨blk, off, none⟩) d.size cap, .int .u64 u] w fun e w' =>
      e = .returned (.tuple #[]) ∧ ∃ (n v' : Nat) (dk : Array UInt8), w' = (putRow (fun (b : UInt8) => Value.int .u8 (b.toNat : Int)) w blk off dk).drewN n ∧ FmtInv d.size u 0 v' dk := Any.internal_strconv_formatBase10 Tryz.lays285 blk off cap u d w hH hu hu64 hsz
def Tryz.laysM246_ren : Go.Shelf.Ren := ⟨fun | 246 => 78 | 283 => 79 | 284 => 80 | 285 => 81 | 286 => 82 | 129 => 84 | 317 => 83 | 318 => 85 | 319 => 86 | 320 => 87 | 337 => 88 | 338 => 89 | n => n, fun | 2 => 2 | 3 => 3 | 9 => 9 | 4 => 4 | 171 => 199 | 0 => 0 | 53 => 200 | 37 => 22 | 5 => 5 | 173 => 203 | 212 => 206 | 51 => 179 | 20 => 20 | 213 => 207 | 46 => 127 | 232 => 211 | 233 => 212 | n => n, fun | 17 => 4 | 18 => 5 | 19 => 6 | n => n⟩
theorem Tryz.laysM246 : Go.Proofs.LaysM.n246 Tryz.prog Tryz.laysM246_ren := {
  mixed := by kernel_rfl
  f129 := Tryz.func84.trans (congrArg some (by kernel_rfl))
  f246 := Tryz.func78.trans (congrArg some (by kernel_rfl))
  f283 := Tryz.func79.trans (congrArg some (by kernel_rfl))
  f284 := Tryz.func80.trans (congrArg some (by kernel_rfl))
  f285 := Tryz.func81.trans (congrArg some (by kernel_rfl))
  f286 := Tryz.func82.trans (congrArg some (by kernel_rfl))
  f317 := Tryz.func83.trans (congrArg some (by kernel_rfl))
  f318 := Tryz.func85.trans (congrArg some (by kernel_rfl))
  f319 := Tryz.func86.trans (congrArg some (by kernel_rfl))
  f320 := Tryz.func87.trans (congrArg some (by kernel_rfl))
  f337 := Tryz.func88.trans (congrArg some (by kernel_rfl))
  f338 := Tryz.func89.trans (congrArg some (by kernel_rfl))
  t0 := Tryz.underlying0
  a0 := Tryz.isAgg0
  z0 := Tryz.sizeOf0
  v0 := Tryz.zeroValue0
  t2 := Tryz.underlying2
  a2 := Tryz.isAgg2
  z2 := Tryz.sizeOf2
  v2 := Tryz.zeroValue2
  t3 := Tryz.underlying3
  a3 := Tryz.isAgg3
  z3 := Tryz.sizeOf3
  v3 := Tryz.zeroValue3
  t4 := Tryz.underlying4
  a4 := Tryz.isAgg4
  z4 := Tryz.sizeOf4
  v4 := Tryz.zeroValue4
  t5 := Tryz.underlying5
  a5 := Tryz.isAgg5
  z5 := Tryz.sizeOf5
  v5 := Tryz.zeroValue5
  t9 := Tryz.underlying9
  a9 := Tryz.isAgg9
  z9 := Tryz.sizeOf9
  v9 := Tryz.zeroValue9
  t20 := Tryz.underlying20
  a20 := Tryz.isAgg20
  z20 := Tryz.sizeOf20
  v20 := Tryz.zeroValue20
  t37 := Tryz.underlying22
  a37 := Tryz.isAgg22
  z37 := Tryz.sizeOf22
  v37 := Tryz.zeroValue22
  t46 := Tryz.underlying127
  a46 := Tryz.isAgg127
  z46 := Tryz.sizeOf127
  v46 := Tryz.zeroValue127
  t51 := Tryz.underlying179
  a51 := Tryz.isAgg179
  z51 := Tryz.sizeOf179
  v51 := Tryz.zeroValue179
  t53 := Tryz.underlying200
  a53 := Tryz.isAgg200
  z53 := Tryz.sizeOf200
  v53 := Tryz.zeroValue200
  t171 := Tryz.underlying199
  a171 := Tryz.isAgg199
  z171 := Tryz.sizeOf199
  v171 := Tryz.zeroValue199
  t173 := Tryz.underlying203
  a173 := Tryz.isAgg203
  z173 := Tryz.sizeOf203
  v173 := Tryz.zeroValue203
  t212 := Tryz.underlying206
  a212 := Tryz.isAgg206
  z212 := Tryz.sizeOf206
  v212 := Tryz.zeroValue206
  t213 := Tryz.underlying207
  a213 := Tryz.isAgg207
  z213 := Tryz.sizeOf207
  t232 := Tryz.underlying211
  a232 := Tryz.isAgg211
  z232 := Tryz.sizeOf211
  v232 := Tryz.zeroValue211
  t233 := Tryz.underlying212
  a233 := Tryz.isAgg212
  z233 := Tryz.sizeOf212
  v233 := Tryz.zeroValue212
  g17 := by kernel_rfl
  g18 := by kernel_rfl
  g19 := by kernel_rfl
  i0 := by kernel_rfl
  i2 := by kernel_rfl
  i3 := by kernel_rfl
  i4 := by kernel_rfl
  i5 := by kernel_rfl
  i9 := by kernel_rfl
  i20 := by kernel_rfl
  i37 := by kernel_rfl
  i46 := by kernel_rfl
  i51 := by kernel_rfl
  i53 := by kernel_rfl
  i171 := by kernel_rfl
  i173 := by kernel_rfl
  i212 := by kernel_rfl
  i232 := by kernel_rfl
  i233 := by kernel_rfl
  m17 := by kernel_rfl
  m18 := by kernel_rfl
  m19 := by kernel_rfl }
open Go.RowKit Go.Sort Go.Lib in
theorem Tryz.internal_strconv_FormatInt_10 (n : Int) (h0 : -9223372036854775808 ≤ n) (h1 : n ≤ 9223372036854775807) (w : World) (htab : Lib.TabIs Tryz.prog w "internal/strconv.uint64pow10" .u64 Lib.pow10Tab) :
    Calls Tryz.prog 78 #[.int .i64 n, .int .i64 10] w fun e w' => e = .returned (.string ⟨(Lib.itoa n).toArray⟩) ∧ ∃ k os, w' = grow (w.drewN k) os := Any.internal_strconv_FormatInt_10 Tryz.laysM246 n h0 h1 w htab
def Tryz.lays246_ren : Go.Shelf.Ren := ⟨fun | 246 => 78 | 283 => 79 | 284 => 80 | 285 => 81 | 286 => 82 | 129 => 84 | 317 => 83 | 318 => 85 | 319 => 86 | 320 => 87 | 337 => 88 | 338 => 89 | n => n, fun | 2 => 2 | 3 => 3 | 9 => 9 | 4 => 4 | 171 => 199 | 0 => 0 | 53 => 200 | 37 => 22 | 5 => 5 | 173 => 203 | 212 => 206 | 51 => 179 | 20 => 20 | 213 => 207 | 46 => 127 | 232 => 211 | 233 => 212 | n => n, fun | 17 => 4 | 18 => 5 | 19 => 6 | n => n⟩
theorem Tryz.lays246 : Go.Proofs.Lays.n246 Tryz.prog Tryz.lays246_ren := {
  mixed := by kernel_rfl
  f129 := Tryz.func84.trans (congrArg some (by kernel_rfl))
  f246 := Tryz.func78.trans (congrArg some (by kernel_rfl))
  f283 := Tryz.func79.trans (congrArg some (by kernel_rfl))
  f284 := Tryz.func80.trans (congrArg some (by kernel_rfl))
  f285 := Tryz.func81.trans (congrArg some (by kernel_rfl))
  f286 := Tryz.func82.trans (congrArg some (by kernel_rfl))
  f317 := Tryz.func83.trans (congrArg some (by kernel_rfl))
  f318 := Tryz.func85.trans (congrArg some (by kernel_rfl))
  f319 := Tryz.func86.trans (congrArg some (by kernel_rfl))
  f320 := Tryz.func87.trans (congrArg some (by kernel_rfl))
  f337 := Tryz.func88.trans (congrArg some (by kernel_rfl))
  f338 := Tryz.func89.trans (congrArg some (by kernel_rfl))
  t0 := Tryz.underlying0
  a0 := Tryz.isAgg0
  z0 := Tryz.sizeOf0
  v0 := Tryz.zeroValue0
  t2 := Tryz.underlying2
  a2 := Tryz.isAgg2
  z2 := Tryz.sizeOf2
  v2 := Tryz.zeroValue2
  t3 := Tryz.underlying3
  a3 := Tryz.isAgg3
  z3 := Tryz.sizeOf3
  v3 := Tryz.zeroValue3
  t4 := Tryz.underlying4
  a4 := Tryz.isAgg4
  z4 := Tryz.sizeOf4
  v4 := Tryz.zeroValue4
  t5 := Tryz.underlying5
  a5 := Tryz.isAgg5
  z5 := Tryz.sizeOf5
  v5 := Tryz.zeroValue5
  t9 := Tryz.underlying9
  a9 := Tryz.isAgg9
  z9 := Tryz.sizeOf9
  v9 := Tryz.zeroValue9
  t20 := Tryz.underlying20
  a20 := Tryz.isAgg20
  z20 := Tryz.sizeOf20
  v20 := Tryz.zeroValue20
  t37 := Tryz.underlying22
  a37 := Tryz.isAgg22
  z37 := Tryz.sizeOf22
  v37 := Tryz.zeroValue22
  t46 := Tryz.underlying127
  a46 := Tryz.isAgg127
  z46 := Tryz.sizeOf127
  v46 := Tryz.zeroValue127
  t51 := Tryz.underlying179
  a51 := Tryz.isAgg179
  z51 := Tryz.sizeOf179
  v51 := Tryz.zeroValue179
  t53 := Tryz.underlying200
  a53 := Tryz.isAgg200
  z53 := Tryz.sizeOf200
  v53 := Tryz.zeroValue200
  t171 := Tryz.underlying199
  a171 := Tryz.isAgg199
  z171 := Tryz.sizeOf199
  v171 := Tryz.zeroValue199
  t173 := Tryz.underlying203
  a173 := Tryz.isAgg203
  z173 := Tryz.sizeOf203
  v173 := Tryz.zeroValue203
  t212 := Tryz.underlying206
  a212 := Tryz.isAgg206
  z212 := Tryz.sizeOf206
  v212 := Tryz.zeroValue206
  t213 := Tryz.underlying207
  a213 := Tryz.isAgg207
  z213 := Tryz.sizeOf207
  t232 := Tryz.underlying211
  a232 := Tryz.isAgg211
  z232 := Tryz.sizeOf211
  v232 := Tryz.zeroValue211
  t233 := Tryz.underlying212
  a233 := Tryz.isAgg212
  z233 := Tryz.sizeOf212
  v233 := Tryz.zeroValue212
  g17 := by kernel_rfl
  g18 := by kernel_rfl
  g19 := by kernel_rfl }
open Go.RowKit Go.Sort Go.Lib in
theorem Tryz.internal_strconv_FormatInt_10_small (i : Nat) (hi : i < 100) (w : World) :
    Calls Tryz.prog 78 #[.int .i64 i, .int .i64 10] w fun e w' => e = .returned (.string ⟨(Lib.decDigits i).toArray⟩) ∧ w' = w := Any.internal_strconv_FormatInt_10_small Tryz.lays246 i hi w
def Tryz.laysM243_ren : Go.Shelf.Ren := ⟨fun | 243 => 77 | 246 => 78 | 283 => 79 | 284 => 80 | 285 => 81 | 286 => 82 | 129 => 84 | 317 => 83 | 318 => 85 | 319 => 86 | 320 => 87 | 337 => 88 | 338 => 89 | n => n, fun | 3 => 3 | 9 => 9 | 2 => 2 | 4 => 4 | 171 => 199 | 0 => 0 | 53 => 200 | 37 => 22 | 5 => 5 | 173 => 203 | 212 => 206 | 51 => 179 | 20 => 20 | 213 => 207 | 46 => 127 | 232 => 211 | 233 => 212 | n => n, fun | 17 => 4 | 18 => 5 | 19 => 6 | n => n⟩
theorem Tryz.laysM243 : Go.Proofs.LaysM.n243 Tryz.prog Tryz.laysM243_ren := {
  mixed := by kernel_rfl
  f129 := Tryz.func84.trans (congrArg some (by kernel_rfl))
  f243 := Tryz.func77.trans (congrArg some (by kernel_rfl))
  f246 := Tryz.func78.trans (congrArg some (by kernel_rfl))
  f283 := Tryz.func79.trans (congrArg some (by kernel_rfl))
  f284 := Tryz.func80.trans (congrArg some (by kernel_rfl))
  f285 := Tryz.func81.trans (congrArg some (by kernel_rfl))
  f286 := Tryz.func82.trans (congrArg some (by kernel_rfl))
  f317 := Tryz.func83.trans (congrArg some (by kernel_rfl))
  f318 := Tryz.func85.trans (congrArg some (by kernel_rfl))
  f319 := Tryz.func86.trans (congrArg some (by kernel_rfl))
  f320 := Tryz.func87.trans (congrArg some (by kernel_rfl))
  f337 := Tryz.func88.trans (congrArg some (by kernel_rfl))
  f338 := Tryz.func89.trans (congrArg some (by kernel_rfl))
  t0 := Tryz.underlying0
  a0 := Tryz.isAgg0
  z0 := Tryz.sizeOf0
  v0 := Tryz.zeroValue0
  t2 := Tryz.underlying2
  a2 := Tryz.isAgg2
  z2 := Tryz.sizeOf2
  v2 := Tryz.zeroValue2
  t3 := Tryz.underlying3
  a3 := Tryz.isAgg3
  z3 := Tryz.sizeOf3
  v3 := Tryz.zeroValue3
  t4 := Tryz.underlying4
  a4 := Tryz.isAgg4
  z4 := Tryz.sizeOf4
  v4 := Tryz.zeroValue4
  t5 := Tryz.underlying5
  a5 := Tryz.isAgg5
  z5 := Tryz.sizeOf5
  v5 := Tryz.zeroValue5
  t9 := Tryz.underlying9
  a9 := Tryz.isAgg9
  z9 := Tryz.sizeOf9
  v9 := Tryz.zeroValue9
  t20 := Tryz.underlying20
  a20 := Tryz.isAgg20
  z20 := Tryz.sizeOf20
  v20 := Tryz.zeroValue20
  t37 := Tryz.underlying22
  a37 := Tryz.isAgg22
  z37 := Tryz.sizeOf22
  v37 := Tryz.zeroValue22
  t46 := Tryz.underlying127
  a46 := Tryz.isAgg127
  z46 := Tryz.sizeOf127
  v46 := Tryz.zeroValue127
  t51 := Tryz.underlying179
  a51 := Tryz.isAgg179
  z51 := Tryz.sizeOf179
  v51 := Tryz.zeroValue179
  t53 := Tryz.underlying200
  a53 := Tryz.isAgg200
  z53 := Tryz.sizeOf200
  v53 := Tryz.zeroValue200
  t171 := Tryz.underlying199
  a171 := Tryz.isAgg199
  z171 := Tryz.sizeOf199
  v171 := Tryz.zeroValue199
  t173 := Tryz.underlying203
  a173 := Tryz.isAgg203
  z173 := Tryz.sizeOf203
  v173 := Tryz.zeroValue203
  t212 := Tryz.underlying206
  a212 := Tryz.isAgg206
  z212 := Tryz.sizeOf206
  v212 := Tryz.zeroValue206
  t213 := Tryz.underlying207
  a213 := Tryz.isAgg207
  z213 := Tryz.sizeOf207
  t232 := Tryz.underlying211
  a232 := Tryz.isAgg211
  z232 := Tryz.sizeOf211
  v232 := Tryz.zeroValue211
  t233 := Tryz.underlying212
  a233 := Tryz.isAgg212
  z233 := Tryz.sizeOf212
  v233 := Tryz.zeroValue212
  g17 := by kernel_rfl
  g18 := by kernel_rfl
  g19 := by kernel_rfl
  i0 := by kernel_rfl
  i2 := by kernel_rfl
  i3 := by kernel_rfl
  i4 := by kernel_rfl
  i5 := by kernel_rfl
  i9 := by kernel_rfl
  i20 := by kernel_rfl
  i37 := by kernel_rfl
  i46 := by kernel_rfl
  i51 := by kernel_rfl
  i53 := by kernel_rfl
  i171 := by kernel_rfl
  i173 := by kernel_rfl
  i212 := by kernel_rfl
  i232 := by kernel_rfl
  i233 := by kernel_rfl
  m17 := by kernel_rfl
  m18 := by kernel_rfl
  m19 := by kernel_rfl }
open Go.RowKit Go.Sort Go.Lib in
theorem Tryz.internal_strconv_Itoa (n : Int) (h0 : -9223372036854775808 ≤ n) (h1 : n ≤ 9223372036854775807) (w : World) (htab : Lib.TabIs Tryz.prog w "internal/strconv.uint64pow10" .u64 Lib.pow10Tab) :
    Calls Tryz.prog 77 #[.int .i64 n] w fun e w' => e = .returned (.string ⟨(Lib.itoa n).toArray⟩) ∧ ∃ k os, w' = grow (w.drewN k) os := Any.internal_strconv_Itoa Tryz.laysM243 n h0 h1 w htab
def Tryz.lays243_ren : Go.Shelf.Ren := ⟨fun | 243 => 77 | 246 => 78 | 283 => 79 | 284 => 80 | 285 => 81 | 286 => 82 | 129 => 84 | 317 => 83 | 318 => 85 | 319 => 86 | 320 => 87 | 337 => 88 | 338 => 89 | n => n, fun | 3 => 3 | 9 => 9 | 2 => 2 | 4 => 4 | 171 => 199 | 0 => 0 | 53 => 200 | 37 => 22 | 5 => 5 | 173 => 203 | 212 => 206 | 51 => 179 | 20 => 20 | 213 => 207 | 46 => 127 | 232 => 211 | 233 => 212 | n => n, fun | 17 => 4 | 18 => 5 | 19 => 6 | n => n⟩
theorem Tryz.lays243 : Go.Proofs.Lays.n243 Tryz.prog Tryz.lays243_ren := {
  mixed := by kernel_rfl
  f129 := Tryz.func84.trans (congrArg some (by kernel_rfl))
  f243 := Tryz.func77.trans (congrArg some (by kernel_rfl))
  f246 := Tryz.func78.trans (congrArg some (by kernel_rfl))
  f283 := Tryz.func79.trans (congrArg some (by kernel_rfl))
  f284 := Tryz.func80.trans (congrArg some (by kernel_rfl))
  f285 := Tryz.func81.trans (congrArg some (by kernel_rfl))
  f286 := Tryz.func82.trans (congrArg some (by kernel_rfl))
  f317 := Tryz.func83.trans (congrArg some (by kernel_rfl))
  f318 := Tryz.func85.trans (congrArg some (by kernel_rfl))
  f319 := Tryz.func86.trans (congrArg some (by kernel_rfl))
  f320 := Tryz.func87.trans (congrArg some (by kernel_rfl))
  f337 := Tryz.func88.trans (congrArg some (by kernel_rfl))
  f338 := Tryz.func89.trans (congrArg some (by kernel_rfl))
  t0 := Tryz.underlying0
  a0 := Tryz.isAgg0
  z0 := Tryz.sizeOf0
  v0 := Tryz.zeroValue0
  t2 := Tryz.underlying2
  a2 := Tryz.isAgg2
  z2 := Tryz.sizeOf2
  v2 := Tryz.zeroValue2
  t3 := Tryz.underlying3
  a3 := Tryz.isAgg3
  z3 := Tryz.sizeOf3
  v3 := Tryz.zeroValue3
  t4 := Tryz.underlying4
  a4 := Tryz.isAgg4
  z4 := Tryz.sizeOf4
  v4 := Tryz.zeroValue4
  t5 := Tryz.underlying5
  a5 := Tryz.isAgg5
  z5 := Tryz.sizeOf5
  v5 := Tryz.zeroValue5
  t9 := Tryz.underlying9
  a9 := Tryz.isAgg9
  z9 := Tryz.sizeOf9
  v9 := Tryz.zeroValue9
  t20 := Tryz.underlying20
  a20 := Tryz.isAgg20
  z20 := Tryz.sizeOf20
  v20 := Tryz.zeroValue20
  t37 := Tryz.underlying22
  a37 := Tryz.isAgg22
  z37 := Tryz.sizeOf22
  v37 := Tryz.zeroValue22
  t46 := Tryz.underlying127
  a46 := Tryz.isAgg127
  z46 := Tryz.sizeOf127
  v46 := Tryz.zeroValue127
  t51 := Tryz.underlying179
  a51 := Tryz.isAgg179
  z51 := Tryz.sizeOf179
  v51 := Tryz.zeroValue179
  t53 := Tryz.underlying200
  a53 := Tryz.isAgg200
  z53 := Tryz.sizeOf200
  v53 := Tryz.zeroValue200
  t171 := Tryz.underlying199
  a171 := Tryz.isAgg199
  z171 := Tryz.sizeOf199
  v171 := Tryz.zeroValue199
  t173 := Tryz.underlying203
  a173 := Tryz.isAgg203
  z173 := Tryz.sizeOf203
  v173 := Tryz.zeroValue203
  t212 := Tryz.underlying206
  a212 := Tryz.isAgg206
  z212 := Tryz.sizeOf206
  v212 := Tryz.zeroValue206
  t213 := Tryz.underlying207
  a213 := Tryz.isAgg207
  z213 := Tryz.sizeOf207
  t232 := Tryz.underlying211
  a232 := Tryz.isAgg211
  z232 := Tryz.sizeOf211
  v232 := Tryz.zeroValue211
  t233 := Tryz.underlying212
  a233 := Tryz.isAgg212
  z233 := Tryz.sizeOf212
  v233 := Tryz.zeroValue212
  g17 := by kernel_rfl
  g18 := by kernel_rfl
  g19 := by kernel_rfl }
open Go.RowKit Go.Sort Go.Lib in
theorem Tryz.internal_strconv_Itoa_small (i : Nat) (hi : i < 100) (w : World) :
    Calls Tryz.prog 77 #[.int .i64 i] w fun e w' => e = .returned (.string ⟨(Lib.decDigits i).toArray⟩) ∧ w' = w := Any.internal_strconv_Itoa_small Tryz.lays243 i hi w
def Tryz.laysM171_ren : Go.Shelf.Ren := ⟨fun | 171 => 76 | 243 => 77 | 246 => 78 | 283 => 79 | 284 => 80 | 285 => 81 | 286 => 82 | 129 => 84 | 317 => 83 | 318 => 85 | 319 => 86 | 320 => 87 | 337 => 88 | 338 => 89 | n => n, fun | 3 => 3 | 9 => 9 | 2 => 2 | 4 => 4 | 171 => 199 | 0 => 0 | 53 => 200 | 37 => 22 | 5 => 5 | 173 => 203 | 212 => 206 | 51 => 179 | 20 => 20 | 213 => 207 | 46 => 127 | 232 => 211 | 233 => 212 | n => n, fun | 17 => 4 | 18 => 5 | 19 => 6 | n => n⟩
theorem Tryz.laysM171 : Go.Proofs.LaysM.n171 Tryz.prog Tryz.laysM171_ren := {
  mixed := by kernel_rfl
  f129 := Tryz.func84.trans (congrArg some (by kernel_rfl))
  f171 := Tryz.func76.trans (congrArg some (by kernel_rfl))
  f243 := Tryz.func77.trans (congrArg some (by kernel_rfl))
  f246 := Tryz.func78.trans (congrArg some (by kernel_rfl))
  f283 := Tryz.func79.trans (congrArg some (by kernel_rfl))
  f284 := Tryz.func80.trans (congrArg some (by kernel_rfl))
  f285 := Tryz.func81.trans (congrArg some (by kernel_rfl))
  f286 := Tryz.func82.trans (congrArg some (by kernel_rfl))
  f317 := Tryz.func83.trans (congrArg some (by kernel_rfl))
  f318 := Tryz.func85.trans (congrArg some (by kernel_rfl))
  f319 := Tryz.func86.trans (congrArg some (by kernel_rfl))
  f320 := Tryz.func87.trans (congrArg some (by kernel_rfl))
  f337 := Tryz.func88.trans (congrArg some (by kernel_rfl))
  f338 := Tryz.func89.trans (congrArg some (by kernel_rfl))
  t0 := Tryz.underlying0
  a0 := Tryz.isAgg0
  z0 := Tryz.sizeOf0
  v0 := Tryz.zeroValue0
  t2 := Tryz.underlying2
  a2 := Tryz.isAgg2
  z2 := Tryz.sizeOf2
  v2 := Tryz.zeroValue2
  t3 := Tryz.underlying3
  a3 := Tryz.isAgg3
  z3 := Tryz.sizeOf3
  v3 := Tryz.zeroValue3
  t4 := Tryz.underlying4
  a4 := Tryz.isAgg4
  z4 := Tryz.sizeOf4
  v4 := Tryz.zeroValue4
  t5 := Tryz.underlying5
  a5 := Tryz.isAgg5
  z5 := Tryz.sizeOf5
  v5 := Tryz.zeroValue5
  t9 := Tryz.underlying9
  a9 := Tryz.isAgg9
  z9 := Tryz.sizeOf9
  v9 := Tryz.zeroValue9
  t20 := Tryz.underlying20
  a20 := Tryz.isAgg20
  z20 := Tryz.sizeOf20
  v20 := Tryz.zeroValue20
  t37 := Tryz.underlying22
  a37 := Tryz.isAgg22
  z37 := Tryz.sizeOf22
  v37 := Tryz.zeroValue22
  t46 := Tryz.underlying127
  a46 := Tryz.isAgg127
  z46 := Tryz.sizeOf127
  v46 := Tryz.zeroValue127
  t51 := Tryz.underlying179
  a51 := Tryz.isAgg179
  z51 := Tryz.sizeOf179
  v51 := Tryz.zeroValue179
  t53 := Tryz.underlying200
  a53 := Tryz.isAgg200
  z53 := Tryz.sizeOf200
  v53 := Tryz.zeroValue200
  t171 := Tryz.underlying199
  a171 := Tryz.isAgg199
  z171 := Tryz.sizeOf199
  v171 := Tryz.zeroValue199
  t173 := Tryz.underlying203
  a173 := Tryz.isAgg203
  z173 := Tryz.sizeOf203
  v173 := Tryz.zeroValue203
  t212 := Tryz.underlying206
  a212 := Tryz.isAgg206
  z212 := Tryz.sizeOf206
  v212 := Tryz.zeroValue206
  t213 := Tryz.underlying207
  a213 := Tryz.isAgg207
  z213 := Tryz.sizeOf207
  t232 := Tryz.underlying211
  a232 := Tryz.isAgg211
  z232 := Tryz.sizeOf211
  v232 := Tryz.zeroValue211
  t233 := Tryz.underlying212
  a233 := Tryz.isAgg212
  z233 := Tryz.sizeOf212
  v233 := Tryz.zeroValue212
  g17 := by kernel_rfl
  g18 := by kernel_rfl
  g19 := by kernel_rfl
  i0 := by kernel_rfl
  i2 := by kernel_rfl
  i3 := by kernel_rfl
  i4 := by kernel_rfl
  i5 := by kernel_rfl
  i9 := by kernel_rfl
  i20 := by kernel_rfl
  i37 := by kernel_rfl
  i46 := by kernel_rfl
  i51 := by kernel_rfl
  i53 := by kernel_rfl
  i171 := by kernel_rfl
  i173 := by kernel_rfl
  i212 := by kernel_rfl
  i232 := by kernel_rfl
  i233 := by kernel_rfl
  m17 := by kernel_rfl
  m18 := by kernel_rfl
  m19 := by kernel_rfl }
open Go.RowKit Go.Sort Go.Lib in
theorem Tryz.strconv_Itoa (n : Int) (h0 : -9223372036854775808 ≤ n) (h1 : n ≤ 9223372036854775807) (w : World) (htab : Lib.TabIs Tryz.prog w "internal/strconv.uint64pow10" .u64 Lib.pow10Tab) :
    Calls Tryz.prog 76 #[.int .i64 n] w fun e w' => e = .returned (.string ⟨(Lib.itoa n).toArray⟩) ∧ ∃ k os, w' = grow (w.drewN k) os := Any.strconv_Itoa Tryz.laysM171 n h0 h1 w htab
def Tryz.lays171_ren : Go.Shelf.Ren := ⟨fun | 171 => 76 | 243 => 77 | 246 => 78 | 283 => 79 | 284 => 80 | 285 => 81 | 286 => 82 | 129 => 84 | 317 => 83 | 318 => 85 | 319 => 86 | 320 => 87 | 337 => 88 | 338 => 89 | n => n, fun | 3 => 3 | 9 => 9 | 2 => 2 | 4 => 4 | 171 => 199 | 0 => 0 | 53 => 200 | 37 => 22 | 5 => 5 | 173 => 203 | 212 => 206 | 51 => 179 | 20 => 20 | 213 => 207 | 46 => 127 | 232 => 211 | 233 => 212 | n => n, fun | 17 => 4 | 18 => 5 | 19 => 6 | n => n⟩
theorem Tryz.lays171 : Go.Proofs.Lays.n171 Tryz.prog Tryz.lays171_ren := {
  mixed := by kernel_rfl
  f129 := Tryz.func84.trans (congrArg some (by kernel_rfl))
  f171 := Tryz.func76.trans (congrArg some (by kernel_rfl))
  f243 := Tryz.func77.trans (congrArg some (by kernel_rfl))
  f246 := Tryz.func78.trans (congrArg some (by kernel_rfl))
  f283 := Tryz.func79.trans (congrArg some (by kernel_rfl))
  f284 := Tryz.func80.trans (congrArg some (by kernel_rfl))
  f285 := Tryz.func81.trans (congrArg some (by kernel_rfl))
  f286 := Tryz.func82.trans (congrArg some (by kernel_rfl))
  f317 := Tryz.func83.trans (congrArg some (by kernel_rfl))
  f318 := Tryz.func85.trans (congrArg some (by kernel_rfl))
  f319 := Tryz.func86.trans (congrArg some (by kernel_rfl))
  f320 := Tryz.func87.trans (congrArg some (by kernel_rfl))
  f337 := Tryz.func88.trans (congrArg some (by kernel_rfl))
  f338 := Tryz.func89.trans (congrArg some (by kernel_rfl))
  t0 := Tryz.underlying0
  a0 := Tryz.isAgg0
  z0 := Tryz.sizeOf0
  v0 := Tryz.zeroValue0
  t2 := Tryz.underlying2
  a2 := Tryz.isAgg2
  z2 := Tryz.sizeOf2
  v2 := Tryz.zeroValue2
  t3 := Tryz.underlying3
  a3 := Tryz.isAgg3
  z3 := Tryz.sizeOf3
  v3 := Tryz.zeroValue3
  t4 := Tryz.underlying4
  a4 := Tryz.isAgg4
  z4 := Tryz.sizeOf4
  v4 := Tryz.zeroValue4
  t5 := Tryz.underlying5
  a5 := Tryz.isAgg5
  z5 := Tryz.sizeOf5
  v5 := Tryz.zeroValue5
  t9 := Tryz.underlying9
  a9 := Tryz.isAgg9
  z9 := Tryz.sizeOf9
  v9 := Tryz.zeroValue9
  t20 := Tryz.underlying20
  a20 := Tryz.isAgg20
  z20 := Tryz.sizeOf20
  v20 := Tryz.zeroValue20
  t37 := Tryz.underlying22
  a37 := Tryz.isAgg22
  z37 := Tryz.sizeOf22
  v37 := Tryz.zeroValue22
  t46 := Tryz.underlying127
  a46 := Tryz.isAgg127
  z46 := Tryz.sizeOf127
  v46 := Tryz.zeroValue127
  t51 := Tryz.underlying179
  a51 := Tryz.isAgg179
  z51 := Tryz.sizeOf179
  v51 := Tryz.zeroValue179
  t53 := Tryz.underlying200
  a53 := Tryz.isAgg200
  z53 := Tryz.sizeOf200
  v53 := Tryz.zeroValue200
  t171 := Tryz.underlying199
  a171 := Tryz.isAgg199
  z171 := Tryz.sizeOf199
  v171 := Tryz.zeroValue199
  t173 := Tryz.underlying203
  a173 := Tryz.isAgg203
  z173 := Tryz.sizeOf203
  v173 := Tryz.zeroValue203
  t212 := Tryz.underlying206
  a212 := Tryz.isAgg206
  z212 := Tryz.sizeOf206
  v212 := Tryz.zeroValue206
  t213 := Tryz.underlying207
  a213 := Tryz.isAgg207
  z213 := Tryz.sizeOf207
  t232 := Tryz.underlying211
  a232 := Tryz.isAgg211
  z232 := Tryz.sizeOf211
  v232 := Tryz.zeroValue211
  t233 := Tryz.underlying212
  a233 := Tryz.isAgg212
  z233 := Tryz.sizeOf212
  v233 := Tryz.zeroValue212
  g17 := by kernel_rfl
  g18 := by kernel_rfl
  g19 := by kernel_rfl }
open Go.RowKit Go.Sort Go.Lib in
theorem Tryz.strconv_Itoa_small (i : Nat) (hi : i < 100) (w : World) :
    Calls Tryz.prog 76 #[.int .i64 i] w fun e w' => e = .returned (.string ⟨(Lib.decDigits i).toArray⟩) ∧ w' = w := Any.strconv_Itoa_small Tryz.lays171 i hi w
def Tryz.laysM181_ren : Go.Shelf.Ren := ⟨fun | 181 => 71 | n => n, fun | 130 => 55 | 3 => 3 | 0 => 0 | 93 => 53 | 37 => 22 | 91 => 51 | 5 => 5 | n => n, fun | n => n⟩
theorem Tryz.laysM181 : Go.Proofs.LaysM.n181 Tryz.prog Tryz.laysM181_ren := {
  mixed := by kernel_rfl
  f181 := Tryz.func71.trans (congrArg some (by kernel_rfl))
  t0 := Tryz.underlying0
  a0 := Tryz.isAgg0
  z0 := Tryz.sizeOf0
  v0 := Tryz.zeroValue0
  t3 := Tryz.underlying3
  a3 := Tryz.isAgg3
  z3 := Tryz.sizeOf3
  v3 := Tryz.zeroValue3
  t37 := Tryz.underlying22
  a37 := Tryz.isAgg22
  z37 := Tryz.sizeOf22
  v37 := Tryz.zeroValue22
  t93 := Tryz.underlying53
  a93 := Tryz.isAgg53
  z93 := Tryz.sizeOf53
  v93 := Tryz.zeroValue53
  t130 := Tryz.underlying55
  a130 := Tryz.isAgg55
  z130 := Tryz.sizeOf55
  v130 := Tryz.zeroValue55
  t5 := Tryz.underlying5
  a5 := Tryz.isAgg5
  z5 := Tryz.sizeOf5
  v5 := Tryz.zeroValue5
  t91 := Tryz.underlying51
  a91 := Tryz.isAgg51
  z91 := Tryz.sizeOf51
  v91 := Tryz.zeroValue51
  i0 := by kernel_rfl
  i3 := by kernel_rfl
  i5 := by kernel_rfl
  i37 := by kernel_rfl
  i91 := by kernel_rfl
  i93 := by kernel_rfl
  i130 := by kernel_rfl }
open Go.RowKit in
theorem Tryz.Buffer_Len (B b : Nat) (bs : List Value) (w : World) (h : Lib.IsBuffer 53 5 B b bs w) :
    Calls Tryz.prog 71 #[.pointer (some ⟨b, 0, none⟩)] w fun e w' => e = .returned (.int .i64 bs.length) ∧ ∃ n, w' = w.drewN n := Any.Buffer_Len Tryz.laysM181 B b bs w h
def Tryz.laysM251_ren : Go.Shelf.Ren := ⟨fun | 251 => 69 | n => n, fun | 130 => 55 | 3 => 3 | 4 => 4 | 0 => 0 | 93 => 53 | 37 => 22 | 91 => 51 | 5 => 5 | n => n, fun | n => n⟩
theorem Tryz.laysM251 : Go.Proofs.LaysM.n251 Tryz.prog Tryz.laysM251_ren := {
  mixed := by kernel_rfl
  f251 := Tryz.func69.trans (congrArg some (by kernel_rfl))
  t0 := Tryz.underlying0
  a0 := Tryz.isAgg0
  z0 := Tryz.sizeOf0
  v0 := Tryz.zeroValue0
  t3 := Tryz.underlying3
  a3 := Tryz.isAgg3
  z3 := Tryz.sizeOf3
  v3 := Tryz.zeroValue3
  t4 := Tryz.underlying4
  a4 := Tryz.isAgg4
  z4 := Tryz.sizeOf4
  v4 := Tryz.zeroValue4
  t37 := Tryz.underlying22
  a37 := Tryz.isAgg22
  z37 := Tryz.sizeOf22
  v37 := Tryz.zeroValue22
  t93 := Tryz.underlying53
  a93 := Tryz.isAgg53
  z93 := Tryz.sizeOf53
  v93 := Tryz.zeroValue53
  t130 := Tryz.underlying55
  a130 := Tryz.isAgg55
  z130 := Tryz.sizeOf55
  v130 := Tryz.zeroValue55
  t5 := Tryz.underlying5
  a5 := Tryz.isAgg5
  z5 := Tryz.sizeOf5
  v5 := Tryz.zeroValue5
  t91 := Tryz.underlying51
  a91 := Tryz.isAgg51
  z91 := Tryz.sizeOf51
  v91 := Tryz.zeroValue51
  i0 := by kernel_rfl
  i3 := by kernel_rfl
  i4 := by kernel_rfl
  i5 := by kernel_rfl
  i37 := by kernel_rfl
  i91 := by kernel_rfl
  i93 := by kernel_rfl
  i130 := by kernel_rfl }
open Go.RowKit in
theorem Tryz.Buffer_tryGrow_room (b : Nat) (ao : Option Addr) (l cap n : Nat) (w : World) (c0 : w.cell? ⟨b, 0, none⟩ = some (.slice ao l cap)) (f0 : w.frozen? ⟨b, 0, none⟩ = false) (hlc : l ≤ cap) (hcap : cap ≤ maxLen) (hn : n ≤ cap - l) :
    Calls Tryz.prog 69 #[.pointer (some ⟨b, 0, none⟩), .int .i64 n] w fun e w' => e = .returned (.tuple #[.int .i64 l, .bool true]) ∧ w' = w.setCell ⟨b, 0, none⟩ (.slice ao (l + n) cap) := Any.Buffer_tryGrow_room Tryz.laysM251 b ao l cap n w c0 f0 hlc hcap hn
open Go.RowKit in
theorem Tryz.Buffer_tryGrow_none (b : Nat) (ao : Option Addr) (l cap n : Nat) (w : World) (c0 : w.cell? ⟨b, 0, none⟩ = some (.slice ao l cap)) (hlc : l ≤ cap) (hcap : cap ≤ maxLen) (hn : cap - l < n) :
    Calls Tryz.prog 69 #[.pointer (some ⟨b, 0, none⟩), .int .i64 n] w fun e w' => e = .returned (.tuple #[.int .i64 0, .bool false]) ∧ w' = w := Any.Buffer_tryGrow_none Tryz.laysM251 b ao l cap n w c0 hlc hcap hn
def Tryz.laysM324_ren : Go.Shelf.Ren := ⟨fun | 324 => 73 | n => n, fun | 20 => 20 | 4 => 4 | 75 => 191 | 0 => 0 | 80 => 56 | 9 => 9 | n => n, fun | 14 => 3 | n => n⟩
theorem Tryz.laysM324 : Go.Proofs.LaysM.n324 Tryz.prog Tryz.laysM324_ren := {
  mixed := by kernel_rfl
  f324 := Tryz.func73.trans (congrArg some (by kernel_rfl))
  t0 := Tryz.underlying0
  a0 := Tryz.isAgg0
  z0 := Tryz.sizeOf0
  v0 := Tryz.zeroValue0
  t4 := Tryz.underlying4
  a4 := Tryz.isAgg4
  z4 := Tryz.sizeOf4
  v4 := Tryz.zeroValue4
  t20 := Tryz.underlying20
  a20 := Tryz.isAgg20
  z20 := Tryz.sizeOf20
  v20 := Tryz.zeroValue20
  t75 := Tryz.underlying191
  a75 := Tryz.isAgg191
  z75 := Tryz.sizeOf191
  v75 := Tryz.zeroValue191
  g14 := by kernel_rfl
  t9 := Tryz.underlying9
  a9 := Tryz.isAgg9
  z9 := Tryz.sizeOf9
  v9 := Tryz.zeroValue9
  t80 := Tryz.underlying56
  a80 := Tryz.isAgg56
  z80 := Tryz.sizeOf56
  v80 := Tryz.zeroValue56
  i0 := by kernel_rfl
  i4 := by kernel_rfl
  i9 := by kernel_rfl
  i20 := by kernel_rfl
  i75 := by kernel_rfl
  i80 := by kernel_rfl
  m14 := by kernel_rfl }
theorem Tryz.growSlice_catch_idle (w : World) :
    CallsD Tryz.prog 73 #[] .returning w fun e u' w' => e = .returned (.tuple #[]) ∧ u' = .returning ∧ w' = w := Any.growSlice_catch_idle Tryz.laysM324 w
def Tryz.laysM290_ren : Go.Shelf.Ren := ⟨fun | 290 => 72 | 324 => 73 | n => n, fun | 37 => 22 | 3 => 3 | 0 => 0 | 4 => 4 | 20 => 20 | 75 => 191 | 5 => 5 | 80 => 56 | 9 => 9 | n => n, fun | 14 => 3 | n => n⟩
theorem Tryz.laysM290 : Go.Proofs.LaysM.n290 Tryz.prog Tryz.laysM290_ren := {
  mixed := by kernel_rfl
  f290 := Tryz.func72.trans (congrArg some (by kernel_rfl))
  f324 := Tryz.func73.trans (congrArg some (by kernel_rfl))
  t0 := Tryz.underlying0
  a0 := Tryz.isAgg0
  z0 := Tryz.sizeOf0
  v0 := Tryz.zeroValue0
  t3 := Tryz.underlying3
  a3 := Tryz.isAgg3
  z3 := Tryz.sizeOf3
  v3 := Tryz.zeroValue3
  t4 := Tryz.underlying4
  a4 := Tryz.isAgg4
  z4 := Tryz.sizeOf4
  v4 := Tryz.zeroValue4
  t20 := Tryz.underlying20
  a20 := Tryz.isAgg20
  z20 := Tryz.sizeOf20
  v20 := Tryz.zeroValue20
  t37 := Tryz.underlying22
  a37 := Tryz.isAgg22
  z37 := Tryz.sizeOf22
  v37 := Tryz.zeroValue22
  t75 := Tryz.underlying191
  a75 := Tryz.isAgg191
  z75 := Tryz.sizeOf191
  v75 := Tryz.zeroValue191
  g14 := by kernel_rfl
  t5 := Tryz.underlying5
  a5 := Tryz.isAgg5
  z5 := Tryz.sizeOf5
  v5 := Tryz.zeroValue5
  t9 := Tryz.underlying9
  a9 := Tryz.isAgg9
  z9 := Tryz.sizeOf9
  v9 := Tryz.zeroValue9
  t80 := Tryz.underlying56
  a80 := Tryz.isAgg56
  z80 := Tryz.sizeOf56
  v80 := Tryz.zeroValue56
  i0 := by kernel_rfl
  i3 := by kernel_rfl
  i4 := by kernel_rfl
  i5 := by kernel_rfl
  i9 := by kernel_rfl
  i20 := by kernel_rfl
  i37 := by kernel_rfl
  i75 := by kernel_rfl
  i80 := by kernel_rfl
  m14 := by kernel_rfl }
open Go.RowKit in
theorem Tryz.bytes_growSlice_row (g l c n : Nat) (cur : Array Value) (w : World) (hg : w.heap[g]? = some (.cells cur 5 (0, 0))) (hcs : cur.size = c) (hlc : l ≤ c) (hn : 1 ≤ n) (hlim : l + n ≤ 140737488355328) (hc2 : c ≤ 140737488355328) (h1 : ∀ v ∈ cur.toList.take l, v.oneCell' = true) :
    Calls Tryz.prog 72 #[.slice (some ⟨g, 0, none⟩) l c, .int .i64 n] w fun e w' => ∃ cap2 cells, e = .returned (.slice (some ⟨w.heap.size, 0, none⟩) l cap2) ∧ w'.heap[w.heap.size]? = some (.cells cells 5 (0, 0)) ∧
      cells.size = cap2 ∧ cells.toList.take l = cur.toList.take l ∧ l + n ≤ cap2 ∧ cap2 ≤ maxLen ∧ Below w.heap.size w w' := Any.bytes_growSlice_row Tryz.laysM290 g l c n cur w hg hcs hlc hn hlim hc2 h1
open Go.RowKit in
theorem Tryz.bytes_growSlice_nil (n : Nat) (w : World) (hn : 1 ≤ n) (hlim : n ≤ 140737488355328) :
    Calls Tryz.prog 72 #[.slice none 0 0, .int .i64 n] w fun e w' => ∃ cap2 cells, e = .returned (.slice (some ⟨w.heap.size, 0, none⟩) 0 cap2) ∧ w'.heap[w.heap.size]? = some (.cells cells 5 (0, 0)) ∧
      cells.size = cap2 ∧ n ≤ cap2 ∧ cap2 ≤ maxLen ∧ Below w.heap.size w w' := Any.bytes_growSlice_nil Tryz.laysM290 n w hn hlim
def Tryz.laysM182_ren : Go.Shelf.Ren := ⟨fun | 182 => 14 | n => n, fun | 130 => 55 | 9 => 9 | 4 => 4 | 0 => 0 | 93 => 53 | 37 => 22 | 3 => 3 | 91 => 51 | 5 => 5 | n => n, fun | n => n⟩
theorem Tryz.laysM182 : Go.Proofs.LaysM.n182 Tryz.prog Tryz.laysM182_ren := {
  mixed := by kernel_rfl
  f182 := Tryz.func14.trans (congrArg some (by kernel_rfl))
  t0 := Tryz.underlying0
  a0 := Tryz.isAgg0
  z0 := Tryz.sizeOf0
  v0 := Tryz.zeroValue0
  t3 := Tryz.underlying3
  a3 := Tryz.isAgg3
  z3 := Tryz.sizeOf3
  v3 := Tryz.zeroValue3
  t4 := Tryz.underlying4
  a4 := Tryz.isAgg4
  z4 := Tryz.sizeOf4
  v4 := Tryz.zeroValue4
  t9 := Tryz.underlying9
  a9 := Tryz.isAgg9
  z9 := Tryz.sizeOf9
  v9 := Tryz.zeroValue9
  t37 := Tryz.underlying22
  a37 := Tryz.isAgg22
  z37 := Tryz.sizeOf22
  v37 := Tryz.zeroValue22
  t93 := Tryz.underlying53
  a93 := Tryz.isAgg53
  z93 := Tryz.sizeOf53
  v93 := Tryz.zeroValue53
  t130 := Tryz.underlying55
  a130 := Tryz.isAgg55
  z130 := Tryz.sizeOf55
  v130 := Tryz.zeroValue55
  t5 := Tryz.underlying5
  a5 := Tryz.isAgg5
  z5 := Tryz.sizeOf5
  v5 := Tryz.zeroValue5
  t91 := Tryz.underlying51
  a91 := Tryz.isAgg51
  z91 := Tryz.sizeOf51
  v91 := Tryz.zeroValue51
  i0 := by kernel_rfl
  i3 := by kernel_rfl
  i4 := by kernel_rfl
  i5 := by kernel_rfl
  i9 := by kernel_rfl
  i37 := by kernel_rfl
  i91 := by kernel_rfl
  i93 := by kernel_rfl
  i130 := by kernel_rfl }
open Go.RowKit in
theorem Tryz.Buffer_String (B b : Nat) (l : List UInt8) (w : World) (h : Lib.IsBuffer 53 5 B b (Lib.byteCells l) w) :
    Calls Tryz.prog 14 #[.pointer (some ⟨b, 0, none⟩)] w fun e w' => e = .returned (.string ⟨l.toArray⟩) ∧ ∃ n, w' = w.drewN n := Any.Buffer_String Tryz.laysM182 B b l w h
def Tryz.laysM183_ren : Go.Shelf.Ren := ⟨fun | 183 => 102 | n => n, fun | 130 => 55 | 37 => 22 | 0 => 0 | 93 => 53 | 3 => 3 | 5 => 5 | 91 => 51 | n => n, fun | n => n⟩
theorem Tryz.laysM183 : Go.Proofs.LaysM.n183 Tryz.prog Tryz.laysM183_ren := {
  mixed := by kernel_rfl
  f183 := Tryz.func102.trans (congrArg some (by kernel_rfl))
  t0 := Tryz.underlying0
  a0 := Tryz.isAgg0
  z0 := Tryz.sizeOf0
  v0 := Tryz.zeroValue0
  t3 := Tryz.underlying3
  a3 := Tryz.isAgg3
  z3 := Tryz.sizeOf3
  v3 := Tryz.zeroValue3
  t37 := Tryz.underlying22
  a37 := Tryz.isAgg22
  z37 := Tryz.sizeOf22
  v37 := Tryz.zeroValue22
  t93 := Tryz.underlying53
  a93 := Tryz.isAgg53
  z93 := Tryz.sizeOf53
  v93 := Tryz.zeroValue53
  t130 := Tryz.underlying55
  a130 := Tryz.isAgg55
  z130 := Tryz.sizeOf55
  v130 := Tryz.zeroValue55
  t5 := Tryz.underlying5
  a5 := Tryz.isAgg5
  z5 := Tryz.sizeOf5
  v5 := Tryz.zeroValue5
  t91 := Tryz.underlying51
  a91 := Tryz.isAgg51
  z91 := Tryz.sizeOf51
  v91 := Tryz.zeroValue51
  i0 := by kernel_rfl
  i3 := by kernel_rfl
  i5 := by kernel_rfl
  i37 := by kernel_rfl
  i91 := by kernel_rfl
  i93 := by kernel_rfl
  i130 := by kernel_rfl }
open Go.RowKit in
theorem Tryz.Buffer_Bytes (B b : Nat) (bs : List Value) (w : World) (h : Lib.IsBuffer 53 5 B b bs w) :
    Calls Tryz.prog 102 #[.pointer (some ⟨b, 0, none⟩)] w fun e w' => ∃ v, e = .returned v ∧ w'.ownsRow B 5 1 v bs.length bs ∧ ∃ n, w' = w.drewN n := Any.Buffer_Bytes Tryz.laysM183 B b bs w h
def Tryz.lays217_ren : Go.Shelf.Ren := ⟨fun | 217 => 44 | 266 => 46 | n => n, fun | 9 => 9 | 5 => 5 | 3 => 3 | n => n, fun | n => n⟩
theorem Tryz.lays217 : Go.Proofs.Lays.n217 Tryz.prog Tryz.lays217_ren := {
  mixed := by kernel_rfl
  f217 := Tryz.func44.trans (congrArg some (by kernel_rfl))
  f266 := Tryz.func46.trans (congrArg some (by kernel_rfl))
  t3 := Tryz.underlying3
  a3 := Tryz.isAgg3
  z3 := Tryz.sizeOf3
  v3 := Tryz.zeroValue3
  t5 := Tryz.underlying5
  a5 := Tryz.isAgg5
  z5 := Tryz.sizeOf5
  v5 := Tryz.zeroValue5
  t9 := Tryz.underlying9
  a9 := Tryz.isAgg9
  z9 := Tryz.sizeOf9
  v9 := Tryz.zeroValue9 }
open Go.RowKit Go.Lib in
theorem Tryz.stringslite_IndexByte (s : ByteArray) (c : Int) (w : World) :
    Calls Tryz.prog 44 #[.string s, .int .u8 c] w fun e w' => e = .returned (.int .i64 (Lib.indexByte s.data.toList c.toNat.toUInt8)) ∧ w' = w := Any.stringslite_IndexByte Tryz.lays217 s c w
def Tryz.laysM252_ren : Go.Shelf.Ren := ⟨fun | 252 => 70 | 181 => 71 | 184 => 62 | 251 => 69 | 290 => 72 | 324 => 73 | n => n, fun | 130 => 55 | 3 => 3 | 4 => 4 | 0 => 0 | 93 => 53 | 131 => 194 | 37 => 22 | 75 => 191 | 91 => 51 | 20 => 20 | 5 => 5 | 80 => 56 | 9 => 9 | n => n, fun | 14 => 3 | n => n⟩
theorem Tryz.laysM252 : Go.Proofs.LaysM.n252 Tryz.prog Tryz.laysM252_ren := {
  mixed := by kernel_rfl
  f181 := Tryz.func71.trans (congrArg some (by kernel_rfl))
  f184 := Tryz.func62.trans (congrArg some (by kernel_rfl))
  f251 := Tryz.func69.trans (congrArg some (by kernel_rfl))
  f252 := Tryz.func70.trans (congrArg some (by kernel_rfl))
  f290 := Tryz.func72.trans (congrArg some (by kernel_rfl))
  f324 := Tryz.func73.trans (congrArg some (by kernel_rfl))
  t0 := Tryz.underlying0
  a0 := Tryz.isAgg0
  z0 := Tryz.sizeOf0
  v0 := Tryz.zeroValue0
  t3 := Tryz.underlying3
  a3 := Tryz.isAgg3
  z3 := Tryz.sizeOf3
  v3 := Tryz.zeroValue3
  t4 := Tryz.underlying4
  a4 := Tryz.isAgg4
  z4 := Tryz.sizeOf4
  v4 := Tryz.zeroValue4
  t20 := Tryz.underlying20
  a20 := Tryz.isAgg20
  z20 := Tryz.sizeOf20
  v20 := Tryz.zeroValue20
  t37 := Tryz.underlying22
  a37 := Tryz.isAgg22
  z37 := Tryz.sizeOf22
  v37 := Tryz.zeroValue22
  t75 := Tryz.underlying191
  a75 := Tryz.isAgg191
  z75 := Tryz.sizeOf191
  v75 := Tryz.zeroValue191
  t91 := Tryz.underlying51
  a91 := Tryz.isAgg51
  z91 := Tryz.sizeOf51
  v91 := Tryz.zeroValue51
  t93 := Tryz.underlying53
  a93 := Tryz.isAgg53
  z93 := Tryz.sizeOf53
  v93 := Tryz.zeroValue53
  t130 := Tryz.underlying55
  a130 := Tryz.isAgg55
  z130 := Tryz.sizeOf55
  v130 := Tryz.zeroValue55
  t131 := Tryz.underlying194
  a131 := Tryz.isAgg194
  z131 := Tryz.sizeOf194
  v131 := Tryz.zeroValue194
  g14 := by kernel_rfl
  t5 := Tryz.underlying5
  a5 := Tryz.isAgg5
  z5 := Tryz.sizeOf5
  v5 := Tryz.zeroValue5
  t9 := Tryz.underlying9
  a9 := Tryz.isAgg9
  z9 := Tryz.sizeOf9
  v9 := Tryz.zeroValue9
  t80 := Tryz.underlying56
  a80 := Tryz.isAgg56
  z80 := Tryz.sizeOf56
  v80 := Tryz.zeroValue56
  i0 := by kernel_rfl
  i3 := by kernel_rfl
  i4 := by kernel_rfl
  i5 := by kernel_rfl
  i9 := by kernel_rfl
  i20 := by kernel_rfl
  i37 := by kernel_rfl
  i75 := by kernel_rfl
  i80 := by kernel_rfl
  i91 := by kernel_rfl
  i93 := by kernel_rfl
  i130 := by kernel_rfl
  i131 := by kernel_rfl
  m14 := by kernel_rfl }
open Go.RowKit in
theorem Tryz.Buffer_grow_row0_kept (B b g cap n : Nat) (lr : Int) (cur : Array Value) (bs : List Value) (w : World) (hB : B ≤ b) (hBw : B ≤ w.heap.size) (hbk : w.heap[b]? = some (.cells #[.slice (some ⟨g, 0, none⟩) 0 cap, .int .i64 0, .int .i8 lr] 53 (0, 0))) (hl : bs.length = 0) (hBg : B ≤ g) (hg : w.heap[g]? = some (.cells cur 5 (0, 0))) (hlc : 0 ≤ cap) (hcm : cap ≤ maxLen) (hcs : cur.size = cap) (htake : cur.toList.take 0 = bs) (hgb : g ≠ b) (h1 : ∀ v ∈ bs, v.oneCell' = true) (hn : 1 ≤ n) (hroom : cap - 0 < n) (hlim : 0 + n ≤ 140737488355328) :
    Calls Tryz.prog 70 #[.pointer (some ⟨b, 0, none⟩), .int .i64 n] w fun e w' => e = .returned (.int .i64 0) ∧ ∃ xs, xs.length = n ∧ Lib.IsBuffer 53 5 B b (bs ++ xs) w' ∧ Below B w w' ∧ Lib.OthersKept 5 (some b) w w' := Any.Buffer_grow_row0_kept Tryz.laysM252 B b g cap n lr cur bs w hB hBw hbk hl hBg hg hlc hcm hcs htake hgb h1 hn hroom hlim
open Go.RowKit in
theorem Tryz.Buffer_grow_row_kept (B b g l cap n : Nat) (lr : Int) (cur : Array Value) (bs : List Value) (w : World) (hB : B ≤ b) (hBw : B ≤ w.heap.size) (hbk : w.heap[b]? = some (.cells #[.slice (some ⟨g, 0, none⟩) l cap, .int .i64 0, .int .i8 lr] 53 (0, 0))) (hl : bs.length = l) (hBg : B ≤ g) (hg : w.heap[g]? = some (.cells cur 5 (0, 0))) (hlc : l ≤ cap) (hcm : cap ≤ maxLen) (hcs : cur.size = cap) (htake : cur.toList.take l = bs) (hgb : g ≠ b) (h1 : ∀ v ∈ bs, v.oneCell' = true) (hn : 1 ≤ n) (hroom : cap - l < n) (hlim : l + n ≤ 140737488355328) :
    Calls Tryz.prog 70 #[.pointer (some ⟨b, 0, none⟩), .int .i64 n] w fun e w' => e = .returned (.int .i64 l) ∧ ∃ xs, xs.length = n ∧ Lib.IsBuffer 53 5 B b (bs ++ xs) w' ∧ Below B w w' ∧ Lib.OthersKept 5 (some b) w w' := Any.Buffer_grow_row_kept Tryz.laysM252 B b g l cap n lr cur bs w hB hBw hbk hl hBg hg hlc hcm hcs htake hgb h1 hn hroom hlim
open Go.RowKit in
theorem Tryz.Buffer_grow_nil_small_kept (B b n : Nat) (lr : Int) (w : World) (hB : B ≤ b) (hBw : B ≤ w.heap.size) (hbk : w.heap[b]? = some (.cells #[.slice none 0 0, .int .i64 0, .int .i8 lr] 53 (0, 0))) (hn : 1 ≤ n) (h64 : n ≤ 64) :
    Calls Tryz.prog 70 #[.pointer (some ⟨b, 0, none⟩), .int .i64 n] w fun e w' => e = .returned (.int .i64 0) ∧ ∃ xs, xs.length = n ∧ Lib.IsBuffer 53 5 B b xs w' ∧ Below B w w' ∧ Lib.OthersKept 5 (some b) w w' := Any.Buffer_grow_nil_small_kept Tryz.laysM252 B b n lr w hB hBw hbk hn h64
open Go.RowKit in
theorem Tryz.Buffer_grow_nil_big_kept (B b n : Nat) (lr : Int) (w : World) (hB : B ≤ b) (hBw : B ≤ w.heap.size) (hbk : w.heap[b]? = some (.cells #[.slice none 0 0, .int .i64 0, .int .i8 lr] 53 (0, 0))) (h64 : 64 < n) (hlim : n ≤ 140737488355328) :
    Calls Tryz.prog 70 #[.pointer (some ⟨b, 0, none⟩), .int .i64 n] w fun e w' => e = .returned (.int .i64 0) ∧ ∃ xs, xs.length = n ∧ Lib.IsBuffer 53 5 B b xs w' ∧ Below B w w' ∧ Lib.OthersKept 5 (some b) w w' := Any.Buffer_grow_nil_big_kept Tryz.laysM252 B b n lr w hB hBw hbk h64 hlim
open Go.RowKit in
theorem Tryz.Buffer_tryGrow_kept (B b n : Nat) (bs : List Value) (w : World) (h : Lib.IsBuffer 53 5 B b bs w) :
    Calls Tryz.prog 69 #[.pointer (some ⟨b, 0, none⟩), .int .i64 n] w fun e w' =>
      (e = .returned (.tuple #[.int .i64 bs.length, .bool true]) ∧ ∃ xs, xs.length = n ∧ Lib.IsBuffer 53 5 B b (bs ++ xs) w' ∧ Below B w w' ∧ Lib.OthersKept 5 (some b) w w') ∨
      (e = .returned (.tuple #[.int .i64 0, .bool false]) ∧ w' = w ∧ Lib.NoRoom b n w) := Any.Buffer_tryGrow_kept Tryz.laysM251 B b n bs w h
open Go.RowKit in
theorem Tryz.Buffer_grow_kept (B b n : Nat) (bs : List Value) (w : World) (h : Lib.IsBuffer 53 5 B b bs w) (hnr : Lib.NoRoom b n w) (hBw : B ≤ w.heap.size) (h1 : ∀ v ∈ bs, v.oneCell' = true) (hlim : bs.length + n ≤ 140737488355328) :
    Calls Tryz.prog 70 #[.pointer (some ⟨b, 0, none⟩), .int .i64 n] w fun e w' => e = .returned (.int .i64 bs.length) ∧ ∃ xs, xs.length = n ∧ Lib.IsBuffer 53 5 B b (bs ++ xs) w' ∧ Below B w w' ∧ Lib.OthersKept 5 (some b) w w' := Any.Buffer_grow_kept Tryz.laysM252 B b n bs w h hnr hBw h1 hlim
def Tryz.laysM179_ren : Go.Shelf.Ren := ⟨fun | 179 => 94 | 251 => 69 | 252 => 70 | 181 => 71 | 184 => 62 | 290 => 72 | 324 => 73 | n => n, fun | 130 => 55 | 5 => 5 | 75 => 191 | 0 => 0 | 93 => 53 | 91 => 51 | 3 => 3 | 131 => 194 | 4 => 4 | 37 => 22 | 20 => 20 | 80 => 56 | 9 => 9 | n => n, fun | 14 => 3 | n => n⟩
theorem Tryz.laysM179 : Go.Proofs.LaysM.n179 Tryz.prog Tryz.laysM179_ren := {
  mixed := by kernel_rfl
  f179 := Tryz.func94.trans (congrArg some (by kernel_rfl))
  f181 := Tryz.func71.trans (congrArg some (by kernel_rfl))
  f184 := Tryz.func62.trans (congrArg some (by kernel_rfl))
  f251 := Tryz.func69.trans (congrArg some (by kernel_rfl))
  f252 := Tryz.func70.trans (congrArg some (by kernel_rfl))
  f290 := Tryz.func72.trans (congrArg some (by kernel_rfl))
  f324 := Tryz.func73.trans (congrArg some (by kernel_rfl))
  t0 := Tryz.underlying0
  a0 := Tryz.isAgg0
  z0 := Tryz.sizeOf0
  v0 := Tryz.zeroValue0
  t3 := Tryz.underlying3
  a3 := Tryz.isAgg3
  z3 := Tryz.sizeOf3
  v3 := Tryz.zeroValue3
  t4 := Tryz.underlying4
  a4 := Tryz.isAgg4
  z4 := Tryz.sizeOf4
  v4 := Tryz.zeroValue4
  t5 := Tryz.underlying5
  a5 := Tryz.isAgg5
  z5 := Tryz.sizeOf5
  v5 := Tryz.zeroValue5
  t20 := Tryz.underlying20
  a20 := Tryz.isAgg20
  z20 := Tryz.sizeOf20
  v20 := Tryz.zeroValue20
  t37 := Tryz.underlying22
  a37 := Tryz.isAgg22
  z37 := Tryz.sizeOf22
  v37 := Tryz.zeroValue22
  t75 := Tryz.underlying191
  a75 := Tryz.isAgg191
  z75 := Tryz.sizeOf191
  v75 := Tryz.zeroValue191
  t91 := Tryz.underlying51
  a91 := Tryz.isAgg51
  z91 := Tryz.sizeOf51
  v91 := Tryz.zeroValue51
  t93 := Tryz.underlying53
  a93 := Tryz.isAgg53
  z93 := Tryz.sizeOf53
  v93 := Tryz.zeroValue53
  t130 := Tryz.underlying55
  a130 := Tryz.isAgg55
  z130 := Tryz.sizeOf55
  v130 := Tryz.zeroValue55
  t131 := Tryz.underlying194
  a131 := Tryz.isAgg194
  z131 := Tryz.sizeOf194
  v131 := Tryz.zeroValue194
  g14 := by kernel_rfl
  t9 := Tryz.underlying9
  a9 := Tryz.isAgg9
  z9 := Tryz.sizeOf9
  v9 := Tryz.zeroValue9
  t80 := Tryz.underlying56
  a80 := Tryz.isAgg56
  z80 := Tryz.sizeOf56
  v80 := Tryz.zeroValue56
  i0 := by kernel_rfl
  i3 := by kernel_rfl
  i4 := by kernel_rfl
  i5 := by kernel_rfl
  i9 := by kernel_rfl
  i20 := by kernel_rfl
  i37 := by kernel_rfl
  i75 := by kernel_rfl
  i80 := by kernel_rfl
  i91 := by kernel_rfl
  i93 := by kernel_rfl
  i130 := by kernel_rfl
  i131 := by kernel_rfl
  m14 := by kernel_rfl }
open Go.RowKit in
theorem Tryz.Buffer_WriteByte_kept (B b : Nat) (bs : List Value) (c : Int) (w : World) (h : Lib.IsBuffer 53 5 B b bs w) (hBw : B ≤ w.heap.size) (h1 : ∀ v ∈ bs, v.oneCell' = true) (hlim : bs.length + 1 ≤ 140737488355328) :
    Calls Tryz.prog 94 #[.pointer (some ⟨b, 0, none⟩), .int .u8 c] w fun e w' => e = .returned .nilIface ∧ Lib.IsBuffer 53 5 B b (bs ++ [.int .u8 c]) w' ∧ Below B w w' ∧ Lib.OthersKept 5 (some b) w w' := Any.Buffer_WriteByte_kept Tryz.laysM179 B b bs c w h hBw h1 hlim
def Tryz.laysM178_ren : Go.Shelf.Ren := ⟨fun | 178 => 68 | 251 => 69 | 252 => 70 | 181 => 71 | 184 => 62 | 290 => 72 | 324 => 73 | n => n, fun | 130 => 55 | 9 => 9 | 3 => 3 | 75 => 191 | 0 => 0 | 93 => 53 | 91 => 51 | 131 => 194 | 4 => 4 | 37 => 22 | 20 => 20 | 80 => 56 | 5 => 5 | n => n, fun | 14 => 3 | n => n⟩
theorem Tryz.laysM178 : Go.Proofs.LaysM.n178 Tryz.prog Tryz.laysM178_ren := {
  mixed := by kernel_rfl
  f178 := Tryz.func68.trans (congrArg some (by kernel_rfl))
  f181 := Tryz.func71.trans (congrArg some (by kernel_rfl))
  f184 := Tryz.func62.trans (congrArg some (by kernel_rfl))
  f251 := Tryz.func69.trans (congrArg some (by kernel_rfl))
  f252 := Tryz.func70.trans (congrArg some (by kernel_rfl))
  f290 := Tryz.func72.trans (congrArg some (by kernel_rfl))
  f324 := Tryz.func73.trans (congrArg some (by kernel_rfl))
  t0 := Tryz.underlying0
  a0 := Tryz.isAgg0
  z0 := Tryz.sizeOf0
  v0 := Tryz.zeroValue0
  t3 := Tryz.underlying3
  a3 := Tryz.isAgg3
  z3 := Tryz.sizeOf3
  v3 := Tryz.zeroValue3
  t4 := Tryz.underlying4
  a4 := Tryz.isAgg4
  z4 := Tryz.sizeOf4
  v4 := Tryz.zeroValue4
  t9 := Tryz.underlying9
  a9 := Tryz.isAgg9
  z9 := Tryz.sizeOf9
  v9 := Tryz.zeroValue9
  t20 := Tryz.underlying20
  a20 := Tryz.isAgg20
  z20 := Tryz.sizeOf20
  v20 := Tryz.zeroValue20
  t37 := Tryz.underlying22
  a37 := Tryz.isAgg22
  z37 := Tryz.sizeOf22
  v37 := Tryz.zeroValue22
  t75 := Tryz.underlying191
  a75 := Tryz.isAgg191
  z75 := Tryz.sizeOf191
  v75 := Tryz.zeroValue191
  t91 := Tryz.underlying51
  a91 := Tryz.isAgg51
  z91 := Tryz.sizeOf51
  v91 := Tryz.zeroValue51
  t93 := Tryz.underlying53
  a93 := Tryz.isAgg53
  z93 := Tryz.sizeOf53
  v93 := Tryz.zeroValue53
  t130 := Tryz.underlying55
  a130 := Tryz.isAgg55
  z130 := Tryz.sizeOf55
  v130 := Tryz.zeroValue55
  t131 := Tryz.underlying194
  a131 := Tryz.isAgg194
  z131 := Tryz.sizeOf194
  v131 := Tryz.zeroValue194
  g14 := by kernel_rfl
  t5 := Tryz.underlying5
  a5 := Tryz.isAgg5
  z5 := Tryz.sizeOf5
  v5 := Tryz.zeroValue5
  t80 := Tryz.underlying56
  a80 := Tryz.isAgg56
  z80 := Tryz.sizeOf56
  v80 := Tryz.zeroValue56
  i0 := by kernel_rfl
  i3 := by kernel_rfl
  i4 := by kernel_rfl
  i5 := by kernel_rfl
  i9 := by kernel_rfl
  i20 := by kernel_rfl
  i37 := by kernel_rfl
  i75 := by kernel_rfl
  i80 := by kernel_rfl
  i91 := by kernel_rfl
  i93 := by kernel_rfl
  i130 := by kernel_rfl
  i131 := by kernel_rfl
  m14 := by kernel_rfl }
open Go.RowKit in
theorem Tryz.Buffer_WriteString_kept (B b : Nat) (bs : List Value) (s : ByteArray) (w : World) (h : Lib.IsBuffer 53 5 B b bs w) (hBw : B ≤ w.heap.size) (h1 : ∀ v ∈ bs, v.oneCell' = true) (hlim : bs.length + s.size ≤ 140737488355328) :
    Calls Tryz.prog 68 #[.pointer (some ⟨b, 0, none⟩), .string s] w fun e w' => e = .returned (.tuple #[.int .i64 s.size, .nilIface]) ∧ Lib.IsBuffer 53 5 B b (bs ++ Lib.byteCells s.data.toList) w' ∧ Below B w w' ∧ Lib.OthersKept 5 (some b) w w' := Any.Buffer_WriteString_kept Tryz.laysM178 B b bs s w h hBw h1 hlim
def Tryz.laysM184_ren : Go.Shelf.Ren := ⟨fun | 184 => 62 | n => n, fun | 130 => 55 | 0 => 0 | 93 => 53 | 37 => 22 | 3 => 3 | 91 => 51 | 5 => 5 | n => n, fun | n => n⟩
theorem Tryz.laysM184 : Go.Proofs.LaysM.n184 Tryz.prog Tryz.laysM184_ren := {
  mixed := by kernel_rfl
  f184 := Tryz.func62.trans (congrArg some (by kernel_rfl))
  t0 := Tryz.underlying0
  a0 := Tryz.isAgg0
  z0 := Tryz.sizeOf0
  v0 := Tryz.zeroValue0
  t3 := Tryz.underlying3
  a3 := Tryz.isAgg3
  z3 := Tryz.sizeOf3
  v3 := Tryz.zeroValue3
  t37 := Tryz.underlying22
  a37 := Tryz.isAgg22
  z37 := Tryz.sizeOf22
  v37 := Tryz.zeroValue22
  t91 := Tryz.underlying51
  a91 := Tryz.isAgg51
  z91 := Tryz.sizeOf51
  v91 := Tryz.zeroValue51
  t93 := Tryz.underlying53
  a93 := Tryz.isAgg53
  z93 := Tryz.sizeOf53
  v93 := Tryz.zeroValue53
  t130 := Tryz.underlying55
  a130 := Tryz.isAgg55
  z130 := Tryz.sizeOf55
  v130 := Tryz.zeroValue55
  t5 := Tryz.underlying5
  a5 := Tryz.isAgg5
  z5 := Tryz.sizeOf5
  v5 := Tryz.zeroValue5
  i0 := by kernel_rfl
  i3 := by kernel_rfl
  i5 := by kernel_rfl
  i37 := by kernel_rfl
  i91 := by kernel_rfl
  i93 := by kernel_rfl
  i130 := by kernel_rfl }
open Go.RowKit in
theorem Tryz.Buffer_Reset_kept (B b : Nat) (bs : List Value) (w : World) (h : Lib.IsBuffer 53 5 B b bs w) :
    Calls Tryz.prog 62 #[.pointer (some ⟨b, 0, none⟩)] w fun e w' => e = .returned (.tuple #[]) ∧ Lib.IsBuffer 53 5 B b [] w' ∧ Below B w w' ∧ Lib.OthersKept 5 (some b) w w' := Any.Buffer_Reset_kept Tryz.laysM184 B b bs w h
open Go.RowKit in
theorem Tryz.Buffer_WriteByte_k (B b : Nat) (bs : List Value) (c : Int) (w : World) (h : Lib.IsBuffer 53 5 B b bs w) (hBw : B ≤ w.heap.size) (h1 : ∀ v ∈ bs, v.oneCell' = true) (hlim : bs.length + 1 ≤ 140737488355328) :
    Calls Tryz.prog 94 #[.pointer (some ⟨b, 0, none⟩), .int .u8 c] w fun e w' => e = .returned .nilIface ∧ Lib.IsBuffer 53 5 B b (bs ++ [.int .u8 c]) w' ∧ Below B w w' ∧ Lib.OthersKept 5 (some b) w w' := Any.Buffer_WriteByte_k Tryz.laysM179 B b bs c w h hBw h1 hlim
open Go.RowKit in
theorem Tryz.Buffer_WriteString_k (B b : Nat) (bs : List Value) (s : ByteArray) (w : World) (h : Lib.IsBuffer 53 5 B b bs w) (hBw : B ≤ w.heap.size) (h1 : ∀ v ∈ bs, v.oneCell' = true) (hlim : bs.length + s.size ≤ 140737488355328) :
    Calls Tryz.prog 68 #[.pointer (some ⟨b, 0, none⟩), .string s] w fun e w' => e = .returned (.tuple #[.int .i64 s.size, .nilIface]) ∧ Lib.IsBuffer 53 5 B b (bs ++ Lib.byteCells s.data.toList) w' ∧ Below B w w' ∧ Lib.OthersKept 5 (some b) w w' := Any.Buffer_WriteString_k Tryz.laysM178 B b bs s w h hBw h1 hlim
open Go.RowKit in
theorem Tryz.Buffer_Reset_k (B b : Nat) (bs : List Value) (w : World) (h : Lib.IsBuffer 53 5 B b bs w) :
    Calls Tryz.prog 62 #[.pointer (some ⟨b, 0, none⟩)] w fun e w' => e = .returned (.tuple #[]) ∧ Lib.IsBuffer 53 5 B b [] w' ∧ Below B w w' ∧ Lib.OthersKept 5 (some b) w w' := Any.Buffer_Reset_k Tryz.laysM184 B b bs w h
def Tryz.lays207_ren : Go.Shelf.Ren := ⟨fun | 207 => 45 | n => n, fun | 9 => 9 | 4 => 4 | 3 => 3 | n => n, fun | n => n⟩
theorem Tryz.lays207 : Go.Proofs.Lays.n207 Tryz.prog Tryz.lays207_ren := {
  mixed := by kernel_rfl
  f207 := Tryz.func45.trans (congrArg some (by kernel_rfl))
  t3 := Tryz.underlying3
  a3 := Tryz.isAgg3
  z3 := Tryz.sizeOf3
  v3 := Tryz.zeroValue3
  t4 := Tryz.underlying4
  a4 := Tryz.isAgg4
  z4 := Tryz.sizeOf4
  v4 := Tryz.zeroValue4
  t9 := Tryz.underlying9
  a9 := Tryz.isAgg9
  z9 := Tryz.sizeOf9
  v9 := Tryz.zeroValue9 }
open Go.RowKit Go.Lib in
theorem Tryz.stringslite_HasSuffix (s p : ByteArray) (w : World) (hs : s.size ≤ 9223372036854775807) :
    Calls Tryz.prog 45 #[.string s, .string p] w fun e w' => e = .returned (.bool (Lib.hasSuffix s.data.toList p.data.toList)) ∧ w' = w := Any.stringslite_HasSuffix Tryz.lays207 s p w hs
def Tryz.lays209_ren : Go.Shelf.Ren := ⟨fun | 209 => 43 | 207 => 45 | n => n, fun | 9 => 9 | 4 => 4 | 3 => 3 | n => n, fun | n => n⟩
theorem Tryz.lays209 : Go.Proofs.Lays.n209 Tryz.prog Tryz.lays209_ren := {
  mixed := by kernel_rfl
  f207 := Tryz.func45.trans (congrArg some (by kernel_rfl))
  f209 := Tryz.func43.trans (congrArg some (by kernel_rfl))
  t3 := Tryz.underlying3
  a3 := Tryz.isAgg3
  z3 := Tryz.sizeOf3
  v3 := Tryz.zeroValue3
  t4 := Tryz.underlying4
  a4 := Tryz.isAgg4
  z4 := Tryz.sizeOf4
  v4 := Tryz.zeroValue4
  t9 := Tryz.underlying9
  a9 := Tryz.isAgg9
  z9 := Tryz.sizeOf9
  v9 := Tryz.zeroValue9 }
open Go.RowKit Go.Lib in
theorem Tryz.stringslite_TrimSuffix (s p : ByteArray) (w : World) (hs : s.size ≤ 9223372036854775807) :
    Calls Tryz.prog 43 #[.string s, .string p] w fun e w' => e = .returned (.string ⟨(Lib.trimSuffix s.data.toList p.data.toList).toArray⟩) ∧ w' = w := Any.stringslite_TrimSuffix Tryz.lays209 s p w hs
def Tryz.lays102_ren : Go.Shelf.Ren := ⟨fun | 102 => 35 | 209 => 43 | 207 => 45 | n => n, fun | 9 => 9 | 4 => 4 | 3 => 3 | n => n, fun | n => n⟩
theorem Tryz.lays102 : Go.Proofs.Lays.n102 Tryz.prog Tryz.lays102_ren := {
  mixed := by kernel_rfl
  f102 := Tryz.func35.trans (congrArg some (by kernel_rfl))
  f207 := Tryz.func45.trans (congrArg some (by kernel_rfl))
  f209 := Tryz.func43.trans (congrArg some (by kernel_rfl))
  t3 := Tryz.underlying3
  a3 := Tryz.isAgg3
  z3 := Tryz.sizeOf3
  v3 := Tryz.zeroValue3
  t4 := Tryz.underlying4
  a4 := Tryz.isAgg4
  z4 := Tryz.sizeOf4
  v4 := Tryz.zeroValue4
  t9 := Tryz.underlying9
  a9 := Tryz.isAgg9
  z9 := Tryz.sizeOf9
  v9 := Tryz.zeroValue9 }
open Go.RowKit Go.Lib in
theorem Tryz.strings_TrimSuffix (s p : ByteArray) (w : World) (hs : s.size ≤ 9223372036854775807) :
    Calls Tryz.prog 35 #[.string s, .string p] w fun e w' => e = .returned (.string ⟨(Lib.trimSuffix s.data.toList p.data.toList).toArray⟩) ∧ w' = w := Any.strings_TrimSuffix Tryz.lays102 s p w hs
def Tryz.lays197_ren : Go.Shelf.Ren := ⟨fun | 197 => 17 | 260 => 31 | n => n, fun | 9 => 9 | 21 => 21 | 3 => 3 | 4 => 4 | 5 => 5 | 105 => 72 | 119 => 126 | 0 => 0 | 46 => 127 | 139 => 130 | 138 => 129 | n => n, fun | 3 => 0 | 4 => 1 | n => n⟩
theorem Tryz.lays197 : Go.Proofs.Lays.n197 Tryz.prog Tryz.lays197_ren := {
  mixed := by kernel_rfl
  f197 := Tryz.func17.trans (congrArg some (by kernel_rfl))
  f260 := Tryz.func31.trans (congrArg some (by kernel_rfl))
  t0 := Tryz.underlying0
  a0 := Tryz.isAgg0
  z0 := Tryz.sizeOf0
  v0 := Tryz.zeroValue0
  t3 := Tryz.underlying3
  a3 := Tryz.isAgg3
  z3 := Tryz.sizeOf3
  v3 := Tryz.zeroValue3
  t4 := Tryz.underlying4
  a4 := Tryz.isAgg4
  z4 := Tryz.sizeOf4
  v4 := Tryz.zeroValue4
  t5 := Tryz.underlying5
  a5 := Tryz.isAgg5
  z5 := Tryz.sizeOf5
  v5 := Tryz.zeroValue5
  t9 := Tryz.underlying9
  a9 := Tryz.isAgg9
  z9 := Tryz.sizeOf9
  v9 := Tryz.zeroValue9
  t21 := Tryz.underlying21
  a21 := Tryz.isAgg21
  z21 := Tryz.sizeOf21
  v21 := Tryz.zeroValue21
  t46 := Tryz.underlying127
  a46 := Tryz.isAgg127
  z46 := Tryz.sizeOf127
  v46 := Tryz.zeroValue127
  t105 := Tryz.underlying72
  a105 := Tryz.isAgg72
  z105 := Tryz.sizeOf72
  v105 := Tryz.zeroValue72
  t119 := Tryz.underlying126
  a119 := Tryz.isAgg126
  z119 := Tryz.sizeOf126
  t138 := Tryz.underlying129
  a138 := Tryz.isAgg129
  z138 := Tryz.sizeOf129
  v138 := Tryz.zeroValue129
  t139 := Tryz.underlying130
  a139 := Tryz.isAgg130
  z139 := Tryz.sizeOf130
  v139 := Tryz.zeroValue130
  g3 := by kernel_rfl
  g4 := by kernel_rfl }
open Go.RowKit Go.Lib in
theorem Tryz.utf8_DecodeRuneInString_ascii (s : ByteArray) (x : UInt8) (w : World) (h0 : s.data.toList[0]? = some x) (hx : x.toNat < 128) :
    Calls Tryz.prog 17 #[.string s] w fun e w' => e = .returned (.tuple #[.int .i32 x.toNat, .int .i64 1]) ∧ w' = w := Any.utf8_DecodeRuneInString_ascii Tryz.lays197 s x w h0 hx
def Tryz.lays260_ren : Go.Shelf.Ren := ⟨fun | 260 => 31 | n => n, fun | 9 => 9 | 21 => 21 | 3 => 3 | 4 => 4 | 5 => 5 | 119 => 126 | 0 => 0 | 46 => 127 | 139 => 130 | 138 => 129 | n => n, fun | 3 => 0 | 4 => 1 | n => n⟩
theorem Tryz.lays260 : Go.Proofs.Lays.n260 Tryz.prog Tryz.lays260_ren := {
  mixed := by kernel_rfl
  f260 := Tryz.func31.trans (congrArg some (by kernel_rfl))
  t0 := Tryz.underlying0
  a0 := Tryz.isAgg0
  z0 := Tryz.sizeOf0
  v0 := Tryz.zeroValue0
  t3 := Tryz.underlying3
  a3 := Tryz.isAgg3
  z3 := Tryz.sizeOf3
  v3 := Tryz.zeroValue3
  t4 := Tryz.underlying4
  a4 := Tryz.isAgg4
  z4 := Tryz.sizeOf4
  v4 := Tryz.zeroValue4
  t5 := Tryz.underlying5
  a5 := Tryz.isAgg5
  z5 := Tryz.sizeOf5
  v5 := Tryz.zeroValue5
  t9 := Tryz.underlying9
  a9 := Tryz.isAgg9
  z9 := Tryz.sizeOf9
  v9 := Tryz.zeroValue9
  t21 := Tryz.underlying21
  a21 := Tryz.isAgg21
  z21 := Tryz.sizeOf21
  v21 := Tryz.zeroValue21
  t46 := Tryz.underlying127
  a46 := Tryz.isAgg127
  z46 := Tryz.sizeOf127
  v46 := Tryz.zeroValue127
  t119 := Tryz.underlying126
  a119 := Tryz.isAgg126
  z119 := Tryz.sizeOf126
  t138 := Tryz.underlying129
  a138 := Tryz.isAgg129
  z138 := Tryz.sizeOf129
  v138 := Tryz.zeroValue129
  t139 := Tryz.underlying130
  a139 := Tryz.isAgg130
  z139 := Tryz.sizeOf130
  v139 := Tryz.zeroValue130
  g3 := by kernel_rfl
  g4 := by kernel_rfl }
open Go.RowKit Go.Lib in
theorem Tryz.utf8_decodeRuneInStringSlow (s : ByteArray) (w : World) (hT : Lib.Utf8Tabs 0 1 w) :
    Calls Tryz.prog 31 #[.string s] w fun e w' => e = .returned (.tuple #[.int .i32 (Lib.decodeGo s).1, .int .i64 (Lib.decodeGo s).2]) ∧ Below w.heap.size w w' := Any.utf8_decodeRuneInStringSlow Tryz.lays260 s w hT
end Go.Proofs
