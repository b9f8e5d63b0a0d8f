/- The package's reading of a definition at the front of a text. -/
import Derived.Test.YtpdpkggojlpklaaDoorState
import Derived.Test.YtpdpkggojlpklaaDoorDest
import Derived.Test.YtpdpkggojlpklaaDoorFold
import Derived.Test.YtpdpkggojlpklaaDoorMdTitle
import Derived.Test.YtpdpkggojlpklaaDoorLabel
import Derived.Test.YtpdpkggojlpklaaDoorSkip
import Derived.Deep.RegionWith
namespace Go.Proofs.YtpdpkggojlpklaaDoor
open Go.RowKit
/-- a definition stands at the front: its label, a colon at c; its destination from p to q; a quotation mark at r, its title; a line feed at z -/
structure IsDef (s : ByteArray) (c p q r z : Nat) (LB DS TI : ByteArray) : Prop where
  size : s.size ≤ 800
  pq : p < q
  qr : q + 1 ≤ r ∧ r ≤ q + 1
  rz : r < z
  zs : z < s.size
  cs : c + 1 < s.size
  labsize : LB.size ≤ 800
  open0 : ∃ h : 0 < s.size, (s[0].toNat : Int) = 91
  skip0 : scan spaceB s.data.toList 0 = 0
  label : labelRes s 0 = .tuple #[.string LB, .int .i64 (c : Int), .bool true]
  aln : AlnAll LB
  colon : ∃ h : c < s.size, (s[c].toNat : Int) = 58
  skip1 : scan spaceB s.data.toList (c + 1) = p
  dest : ∀ k (h : k < s.size), p ≤ k → k < q → destB (s[k].toNat : Int) = true
  destIs : s.extract p q = DS
  gap : ∃ h : q < s.size, (s[q].toNat : Int) = 32
  quote : ∃ h : r < s.size, (s[r].toNat : Int) = 34
  title : titleP s r 34 (tAt 34 false s (r + 1)) = .tuple #[.string TI, .int .u8 34, .int .i64 (z : Int), .bool true]
  line : (s[z].toNat : Int) = 10
/-- what the package leaves: the one link, and where its address and its title stand -/
def RefMade (LB DS TI : ByteArray) (z B b m : Nat) (w : World) (e : Ending) (w' : World) : Prop :=
  ∃ k : Nat, e = .returned (.tuple #[.int .i64 ((z : Int) + 1), .bool true]) ∧ w'.heap[m]? = some (.map #[{ key := .string ⟨(lowL LB.data.toList).toArray⟩, val := .pointer (some ⟨k, 0, none⟩), born := 0 }] 1) ∧ m < k ∧ w'.cell? ⟨k, 1, none⟩ = some (.string DS) ∧ w'.cell? ⟨k, 2, none⟩ = some (.string TI) ∧ w'.cell? ⟨b, 2, none⟩ = some (.map (some m)) ∧ Below B w w'
theorem assert_same {P : Program} {t : TypeId} (hu : (match P.underlying t with | some (.pointer _) => true | _ => false) = true) (v : Value) (xT : TypeId) (w : World) :
    (Instr.typeAssert (.iface t v) xT t false).run P w = .ok v w := by
  split at hu
  · rename_i e he; simp [Instr.typeAssert, run_underlying he]
  · cases hu
set_option maxHeartbeats 8000000 in
set_option maxRecDepth 100000 in
theorem md_parseLinkRefDef (s : ByteArray) (c p q r z B b m : Nat) (LB DS TI : ByteArray) (w : World) (hd : IsDef s c p q r z LB DS TI) (hst : StateAt b m w) (hb : b < w.heap.size) (hm : m < w.heap.size) (hBm : B ≤ m) (hbm : b ≠ m) (ht : TableAt w) (h0 : 4 < w.heap.size) :
    Calls Tryd.prog 24 #[.iface 43 (.pointer (some ⟨b, 0, none⟩)), .string s] w (RefMade LB DS TI z B b m w) := by
  obtain ⟨hs, hpq, ⟨hqr1, hqr2⟩, hrz, hzs, hcs, hlbs, ⟨i0, z0⟩, hsk0, hlab, haln, ⟨i1, z1⟩, hsk1, hdst, hdsi, ⟨i2, z2⟩, ⟨i3, z3⟩, htit, hline⟩ := hd
  have HK0 : ∀ w, Calls Tryd.prog 29 #[.string s, .int .i64 0] w fun e w' => e = .returned (.int .i64 0) ∧ w = w' := fun w => by
    have := md_skipSpace s 0 w (by unfold maxLen; omega) (by omega)
    rw [hsk0] at this; exact this
  have HLB : ∀ v w, Calls Tryd.prog 30 #[v, .string s, .int .i64 0] w fun e w' => e = .returned (.tuple #[.string LB, .int .i64 (c : Int), .bool true]) ∧ w = w' := fun v w => by
    have := md_parseLinkLabel v s 0 w (by omega) i0 z0
    rw [hlab] at this; exact this
  have HK1 : ∀ w, Calls Tryd.prog 29 #[.string s, .int .i64 ((c : Int) + 1)] w fun e w' => e = .returned (.int .i64 (p : Int)) ∧ w = w' := fun w => by
    have := md_skipSpace s (c + 1) w (by unfold maxLen; omega) (by omega)
    rw [hsk1] at this; exact this
  have HDS := md_parseLinkDest s p q w (by omega) hpq i2 hdst z2 ht h0
  rw [hdsi] at HDS
  have HTI := fun (w2 : World) (hb2 : Below w.heap.size w w2) => md_parseLinkTitle 34 34 false (.inl ⟨rfl, rfl, rfl⟩) s r w2 (by omega) i3 z3 (ht.below hb2 (by omega)) (Nat.lt_of_lt_of_le h0 hb2.size)
  rw [htit] at HTI
  have HNL := fun w => md_normalizeLabel LB w (by omega) haln
  have HLK := fun (L : ByteArray) w (h : StateAt b m w) => md_link b m L w h
  have HDF := fun (L : ByteArray) (v : Value) w (h : StateAt b m w) => md_defineLink b m L v w h
  have az : ∀ v w, (Instr.typeAssert (.iface 43 v) 69 43 false).run Tryd.prog w = .ok v w := fun v w => assert_same (by kernel_rfl) v _ w
  have hm1 : ∀ (a : Addr) (w : World), (method 254 43 (.pointer (some a)) "pub-paratext/pub/rscmarkdown.link").run Tryd.prog w = .ok (72, .pointer (some a)) w := fun _ _ => by kernel_rfl
  have hm2 : ∀ (a : Addr) (w : World), (method 254 43 (.pointer (some a)) "pub-paratext/pub/rscmarkdown.defineLink").run Tryd.prog w = .ok (70, .pointer (some a)) w := fun _ _ => by kernel_rfl
  have e1 : ((s[c].toNat : Int) != 58) = false := by rw [z1]; rfl
  have e2 : ((s[q].toNat : Int) == 32) = true := by rw [z2]; rfl
  have e3 : ((s[r].toNat : Int) == 32) = false := by rw [z3]; rfl
  have e4 : ((s[r].toNat : Int) == 9) = false := by rw [z3]; rfl
  have e5 : ((s[r].toNat : Int) == 10) = false := by rw [z3]; rfl
  have e6 : ((s[z].toNat : Int) == 32) = false := by rw [hline]; rfl
  have e7 : ((s[z].toNat : Int) == 9) = false := by rw [hline]; rfl
  have e8 : ((s[z].toNat : Int) == 10) = true := by rw [hline]; rfl
  have e9 : ((s[z].toNat : Int) != 10) = false := by rw [hline]; rfl
  replace HK0 := Lib.hid HK0
  replace HLB := Lib.hid HLB
  replace HK1 := Lib.hid HK1
  replace HDS := Lib.hid HDS
  replace HTI := Lib.hid HTI
  replace HNL := Lib.hid HNL
  replace HLK := Lib.hid HLK
  replace HDF := Lib.hid HDF
  have HST := Lib.hid hst
  clear hst hsk0 hlab haln hsk1 hdst hdsi htit hline z0 z1 z2 z3 ht
  unfold RefMade
  generalize (⟨(lowL LB.data.toList).toArray⟩ : ByteArray) = LW at *
  go_enter Tryd.func24, Tryd.ntmps24
  go_wp2_with (first
    | (go_at_call 29; first | ((with_reducible refine (HK0.out _).mono ?_); rintro e w' ⟨rfl, rfl⟩) | ((with_reducible refine (HK1.out _).mono ?_); rintro e w' ⟨rfl, rfl⟩))
    | (go_at_call 30; refine (HLB.out _ _).mono ?_; rintro e w' ⟨rfl, rfl⟩)
    | (go_at_call 31; refine HDS.out.mono ?_; rintro e w2 ⟨rfl, hb2⟩))
  go_loopg [6, 11] 1 (fun g i mv wx => ((g = 1 ∧ i = .int .i64 q ∧ mv = .bool false) ∨ (g = 0 ∧ i = .int .i64 r ∧ mv = .bool true)) ∧ w2 = wx)
  case atStart => exact ⟨.inl ⟨rfl, rfl, rfl⟩, rfl⟩
  case round =>
    obtain ⟨hor, rfl⟩ := hrel
    rcases hor with ⟨rfl, rfl, rfl⟩ | ⟨rfl, rfl, rfl⟩
    · go_wp2_with (fail)
      go_roundg 0
      case measure => omega
      case rel => exact ⟨.inr ⟨rfl, congrArg _ (by omega), rfl⟩, rfl⟩
    · go_wp2_with (fail)
      go_loopg [12] 0 (fun g j wx => j = .int .i64 r ∧ w2 = wx)
      case atStart => exact ⟨rfl, rfl⟩
      case round =>
        obtain ⟨rfl, rfl⟩ := hrel
        go_wp2_with (go_at_call 32; refine (HTI.out _ hb2).mono ?_; rintro e w3 ⟨rfl, hb3⟩)
        go_loopg [18] 0 (fun g j wx => j = .int .i64 z ∧ w3 = wx)
        case atStart => exact ⟨rfl, rfl⟩
        case round =>
          obtain ⟨rfl, rfl⟩ := hrel
          have hte : (TI.toList.isEmpty = true ∧ TI.toList = []) ∨ (TI.toList.isEmpty = false ∧ ¬ TI.toList = []) := by
            cases TI.toList with
            | nil => exact .inl ⟨rfl, rfl⟩
            | cons a l => exact .inr ⟨rfl, by simp⟩
          rcases hte with ⟨t1, t2⟩ | ⟨t1, t2⟩
          all_goals
            have hk3 : Below w.heap.size w w3 := bel_next hb2 hb3 (Nat.le_refl _)
            go_wp2_with (first
              | (go_at_call 33; refine (HNL.out _).mono ?_; rintro e w4 ⟨rfl, hb4⟩; have hk4 := bel_next hk3 hb4 (Nat.le_refl _); have HS4 := Lib.hid (HST.out.kept hb hm hk4); clear hb4)
              | (go_at_call 72; refine (HLK.out _ _ HS4.out).mono ?_; rintro e w' ⟨rfl, rfl⟩)
              | (go_at_call 70; refine (HDF.out _ _ _ (HS4.out.kept (Nat.lt_of_lt_of_le hb hk4.size) (Nat.lt_of_lt_of_le hm hk4.size) ((Below.refl _ _).alloc (Nat.le_refl _) _))).mono ?_; rintro e w5 ⟨rfl, rfl⟩))
            go_ret2
            have hm4 : m < w4.heap.size := Nat.lt_of_lt_of_le hm hk4.size
            refine ⟨w4.heap.size, rfl, putObj_at _ (by simp; omega), hm4, ?_, ?_, ?_, bel_putObj ((hk4.mono (by omega)).alloc (by have := hk4.size; omega) _) hBm _⟩
            · rw [cell_putObj _ _ (by omega), World.cell?_alloc_mark]; rfl
            · rw [cell_putObj _ _ (by omega), World.cell?_alloc_mark]; rfl
            · rw [cell_putObj _ _ hbm, World.cell?_alloc_lt _ _ _ (Nat.lt_of_lt_of_le hb hk4.size)]; exact HS4.out.cell
end Go.Proofs.YtpdpkggojlpklaaDoor
