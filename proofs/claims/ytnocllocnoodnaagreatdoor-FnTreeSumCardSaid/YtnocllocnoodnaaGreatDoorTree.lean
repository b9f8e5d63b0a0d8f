/- The builder's blocks at each depth. -/
import Derived.Test.YtnocllocnoodnaaGreatDoorList
import Derived.Test.YtnocllocnoodnaaGreatDoorBlock
import Derived.Test.YtnocllocnoodnaaGreatDoorBuiltCode
namespace Go.Proofs.YtnocllocnoodnaaGreatDoor
open Go.RowKit
section
variable (b n : Nat)
/-- what 'block' makes at a depth; what 'blocks' makes; what 'list' makes -/
def BlockOk (D N L M : Nat) : Prop := ∀ (odd : Bool) (w : World), Bld b n w → Calls Tryz.prog 13 #[.pointer (some ⟨b, 0, none⟩), .int .i64 (D : Nat), .bool odd] w (BlockGot b n N L M w)
def BlocksOk (D most N L M : Nat) : Prop := ∀ w : World, Bld b n w → Calls Tryz.prog 8 #[.pointer (some ⟨b, 0, none⟩), .int .i64 (D : Nat), .int .i64 most] w (BlocksGot b n N L M most w)
def ListOk (D N L M : Nat) : Prop := ∀ (odd : Bool) (w : World), Bld b n w → Calls Tryz.prog 29 #[.pointer (some ⟨b, 0, none⟩), .int .i64 (D : Nat), .bool odd] w (BlockGot b n N L M w)
theorem blocks_ok {D most N L M : Nat} (h : BlockOk b n D N L M) (hN : N ≤ 5000) (h1 : 0 < most) (h2 : most ≤ 4) : BlocksOk b n D most N L M := fun w hw =>
  builder_blocks b n N L M D most w hw hN h1 h2 h
theorem block_ok {D N L M NB LB MB NL LL ML : Nat} (hN8 : 8 ≤ N) (hL : 110 ≤ L) (hM : 3000 ≤ M) (hD : D ≤ 100) (hN2 : 3 * (NB + 1) ≤ N) (hN3 : NL ≤ N) (hL2 : LB + 2 ≤ L) (hL3 : LL ≤ L) (hM2 : 3 * MB + 27 ≤ M) (hM4 : ML ≤ M) (hB1 : NB ≤ 5000) (hB2 : LB ≤ 1000)
    (hbs : ∀ e, D = e + 1 → BlocksOk b n e 3 NB LB MB) (hls : ∀ e, D = e + 1 → ListOk b n e NL LL ML) : BlockOk b n D N L M := fun odd w hw =>
  builder_block b n N L M D NB LB MB NL LL ML w odd hw hN8 hL hM hD hN2 hN3 hL2 hL3 hM2 hM4 hB1 hB2 (fun e he => hbs e he) (fun e he => hls e he odd) (fun s ti lo hi w h1 h2 h3 => blk_code s ti lo hi w h1 h2 h3)
theorem list_ok {e N L M NB LB MB NI LL MI : Nat} (hNI : 3 ≤ NI) (hNI2 : 2 * (NB + 1) ≤ NI) (hNI3 : NI ≤ 10000) (hN : 3 * (NI + 1) ≤ N) (hLL : 100 ≤ LL) (hLL2 : LB ≤ LL) (hLL3 : LL ≤ 900) (hL : LL + 4 ≤ L) (hMI : 3012 ≤ MI) (hMI2 : 2 * (MB + 1) + 11 ≤ MI) (hM : 3 * MI + 30 ≤ M) (he : e ≤ 100)
    (hbs : ∀ d, e = d + 1 → BlocksOk b n d 2 NB LB MB) : ListOk b n e N L M := fun odd w hw =>
  builder_list b n N L M e NB LB MB NI LL MI odd w hw hNI hNI2 hNI3 hN hLL hLL2 hLL3 hL hMI hMI2 hM he (fun d hd => hbs d hd)
theorem block_0 : BlockOk b n 0 8 110 3000 :=
  block_ok b n (NB := 0) (LB := 0) (MB := 0) (NL := 0) (LL := 0) (ML := 0) (by decide) (by decide) (by decide) (by decide) (by decide) (by decide) (by decide) (by decide) (by decide) (by decide) (by decide) (by decide) (fun e he => by omega) (fun e he => by omega)
theorem list_0 : ListOk b n 0 12 104 9066 :=
  list_ok b n (NB := 0) (LB := 0) (MB := 0) (NI := 3) (LL := 100) (MI := 3012) (by decide) (by decide) (by decide) (by decide) (by decide) (by decide) (by decide) (by decide) (by decide) (by decide) (by decide) (by decide) (fun d hd => by omega)
theorem block_1 : BlockOk b n 1 27 114 9066 :=
  block_ok b n (NB := 8) (LB := 110) (MB := 3000) (NL := 12) (LL := 104) (ML := 9066) (by decide) (by decide) (by decide) (by decide) (by decide) (by decide) (by decide) (by decide) (by decide) (by decide) (by decide) (by decide)
    (fun e he => by have hz : e = 0 := (by omega); subst hz; exact blocks_ok b n (block_0 b n) (by decide) (by decide) (by decide)) (fun e he => by have hz : e = 0 := (by omega); subst hz; exact list_0 b n)
theorem list_1 : ListOk b n 1 57 114 18069 :=
  list_ok b n (NB := 8) (LB := 110) (MB := 3000) (NI := 18) (LL := 110) (MI := 6013) (by decide) (by decide) (by decide) (by decide) (by decide) (by decide) (by decide) (by decide) (by decide) (by decide) (by decide) (by decide)
    (fun d hd => by have hz : d = 0 := (by omega); subst hz; exact blocks_ok b n (block_0 b n) (by decide) (by decide) (by decide))
theorem block_2 : BlockOk b n 2 84 118 27225 :=
  block_ok b n (NB := 27) (LB := 114) (MB := 9066) (NL := 57) (LL := 114) (ML := 18069) (by decide) (by decide) (by decide) (by decide) (by decide) (by decide) (by decide) (by decide) (by decide) (by decide) (by decide) (by decide)
    (fun e he => by have hz : e = 1 := (by omega); subst hz; exact blocks_ok b n (block_1 b n) (by decide) (by decide) (by decide)) (fun e he => by have hz : e = 1 := (by omega); subst hz; exact list_1 b n)
theorem list_2 : ListOk b n 2 171 118 54465 :=
  list_ok b n (NB := 27) (LB := 114) (MB := 9066) (NI := 56) (LL := 114) (MI := 18145) (by decide) (by decide) (by decide) (by decide) (by decide) (by decide) (by decide) (by decide) (by decide) (by decide) (by decide) (by decide)
    (fun d hd => by have hz : d = 1 := (by omega); subst hz; exact blocks_ok b n (block_1 b n) (by decide) (by decide) (by decide))
theorem block_3 : BlockOk b n 3 255 122 81702 :=
  block_ok b n (NB := 84) (LB := 118) (MB := 27225) (NL := 171) (LL := 118) (ML := 54465) (by decide) (by decide) (by decide) (by decide) (by decide) (by decide) (by decide) (by decide) (by decide) (by decide) (by decide) (by decide)
    (fun e he => by have hz : e = 2 := (by omega); subst hz; exact blocks_ok b n (block_2 b n) (by decide) (by decide) (by decide)) (fun e he => by have hz : e = 2 := (by omega); subst hz; exact list_2 b n)
theorem blocks_3 : BlocksOk b n 3 4 255 122 81702 := blocks_ok b n (block_3 b n) (by decide) (by decide) (by decide)
end
end Go.Proofs.YtnocllocnoodnaaGreatDoor
