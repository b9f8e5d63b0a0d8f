/- The package's table of names of characters, as it lies in memory; the look-up in it. -/
import Derived.Test.YtpdpkggojlpklaaDoorUnescPlain
import Derived.Test.YtpdpkggojlpklaaDoorRows
import Derived.WalkSpells
import Derived.WalkLawsBesides
import Derived.Deep.LoopGhost
import Derived.Below
import Derived.Lib.Strings
namespace Go.Proofs.YtpdpkggojlpklaaDoor
open Go.RowKit
/-- the table's cells, in the variable's block: names and texts by turns -/
def TableAt (w : World) : Prop := ∀ (i : Nat) (h : i < 12), w.cell? ⟨4, i * 2, none⟩ = some (.string ⟨(entTab[i]'h).1.toArray⟩) ∧ w.cell? ⟨4, i * 2 + 1, none⟩ = some (.string ⟨(entTab[i]'h).2.toArray⟩)
theorem TableAt.below {B : Nat} {w w' : World} (h : TableAt w) (hb : Below B w w') (hB : 4 < B) : TableAt w' := fun i hi =>
  ⟨(hb.cell (p := ⟨4, i * 2, none⟩) hB).trans (h i hi).1, (hb.cell (p := ⟨4, i * 2 + 1, none⟩) hB).trans (h i hi).2⟩
/-- what the look-up hands back -/
def lookRes (o : Option (List UInt8)) : Value := match o with | some r => .tuple #[.string ⟨r.toArray⟩, .bool true] | none => .tuple #[.string ⟨#[]⟩, .bool false]
theorem md_htmlEntity (n : ByteArray) (w : World) (ht : TableAt w) :
    Calls Tryd.prog 45 #[.string n] w fun e w' => e = .returned (lookRes (look 0 n.data.toList)) ∧ w = w' := by
  obtain ⟨V, hV⟩ : ∃ V, V = look 0 n.data.toList := ⟨_, rfl⟩
  have HV := Lib.hid hV
  rw [← hV]
  clear hV
  have HT := Lib.hid ht; clear ht
  go_enter Tryd.func45, Tryd.ntmps45
  go_wp2_with (fail)
  go_loopg [4] 12 (fun g j wx => ∃ k : Nat, k + g = 12 ∧ j = .int .i64 k ∧ Hid (look k n.data.toList = look 0 n.data.toList) ∧ w = wx)
  case atStart => exact ⟨0, rfl, rfl, Lib.hid rfl, rfl⟩
  case round =>
    obtain ⟨k, hkg, rfl, HR, rfl⟩ := hrel
    by_cases hk : k < 12
    · have h1 := (HT.out k hk).1
      have h2 := (HT.out k hk).2
      cases hE : ((entTab[k]'hk).1 == n.toList) with
      | true =>
        have HE : Hid (V = some (entTab[k]'hk).2) := Lib.hid (HV.out.trans (HR.out.symm.trans (look_yes hk (by rw [beq_iff_eq] at hE; rw [hE, Lib.toList_data]))))
        go_wp2_with (fail)
        go_ret2
        exact ⟨by rw [HE.out]; rfl, rfl⟩
      | false =>
        have HE := Lib.hid ((look_no hk (fun h => by rw [beq_eq_false_iff_ne] at hE; exact hE (h.trans (Lib.toList_data n).symm))).symm.trans HR.out)
        go_wp2_with (fail)
        go_roundg (gk - 1)
        case measure => omega
        case rel => exact ⟨k + 1, by omega, by go_num, HE, rfl⟩
    · obtain rfl : k = 12 := by omega
      have HE : Hid (V = none) := Lib.hid (HV.out.trans (HR.out.symm.trans (look_end _)))
      go_wp2_with (fail)
      go_ret2
      exact ⟨by rw [HE.out]; rfl, rfl⟩
end Go.Proofs.YtpdpkggojlpklaaDoor
