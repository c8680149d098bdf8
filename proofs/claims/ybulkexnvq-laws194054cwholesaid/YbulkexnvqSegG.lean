/-
  THE LAW's LAST LOOP: the owner's sets are as they were laid.
-/
import Derived.Test.YbulkexnvqInp
namespace Go.Proofs.Ybulkexnvq
open Go Go.RowKit

def PostG (w : World) (x : Exit) (a' : Act) (w' : World) : Prop := x = .normal ∧ Fr a' ∧ Kept (fun _ => False) w w'

set_option maxRecDepth 100000 in
set_option maxHeartbeats 3200000 in
theorem segG (I : Inp) (d : SetsD) (ob hb hcap : Nat) (hso : Option Addr) (w0 w : World) (a : Act) (fr : Fr a) (c1 : cell a 1 = .slice I.sa I.m I.sc) (c33 : cell a 33 = .pointer (some ⟨ob, 0, none⟩))
    (hin : InAt I w0) (hbl : Below w0.heap.size w0 w) (o5 : w.cell? ⟨ob, 5, none⟩ = some (.slice hso I.m hcap)) (hso0 : 0 < I.m → hso = some ⟨hb, 0, none⟩) (hh : HsAt d hb w) (hm : d.m = I.m) (hm4 : I.m ≤ 4096)
    (hlo : ∀ k, d.lo k = clampN (I.Lo k) (I.kn k)) (hhi : ∀ k, d.hi k = clampN (I.Hi k) (I.kn k)) :
    Code.wp Yba.prog (item 22) (PostG w) a w := by
  rw [fr.open']
  unfold listF
  rw [c1, c33]
  clear c1 c33 fr
  generalize cell a = f
  clear a
  conv => arg 2; whnf
  have HIN := mkHid hin
  have HBL := mkHid hbl
  have HH := mkHid hh
  have HLO := mkHid hlo
  have HHI := mkHid hhi
  have HO := mkHid o5
  have HM := mkHid hm
  clear hin hbl hh hlo hhi o5 hm
  generalize hsa : I.sa = sa
  have HSA := mkHid hsa
  clear hsa
  go_wp2
  go_loopg [382] I.m (fun g ix wr => ∃ k : Nat, k + g = I.m ∧ ix = .int .i64 k ∧ Kept (fun _ => False) w wr)
  case atStart => exact ⟨0, by omega, rfl, Kept.refl _ _⟩
  case round =>
    obtain ⟨k, hk, rfl, hkp⟩ := hrel
    have HK := mkHid hkp
    clear hkp
    by_cases hlt : k < I.m
    · obtain ⟨b, off, hsa, q0, q1, q2⟩ := (HIN.out.below (Below.kept' HBL.out HK.out (fun _ _ h => h) (Nat.le_refl _))).sets k hlt
      obtain rfl := hso0 (by omega)
      have p5 := HK.out.cell HO.out (fun h => h)
      obtain ⟨_, r1, r2⟩ := (HH.out.kept HK.out (fun h => h)) k (by rw [HM.out]; exact hlt)
      rw [HLO.out k] at r1
      rw [HHI.out k] at r2
      obtain rfl := HSA.out.symm.trans hsa
      have l1 := World.block_lt_of_cell? _ _ q0
      have l2 := World.block_lt_of_cell? _ _ p5
      have l3 := World.block_lt_of_cell? _ _ r1
      simp only at l1 l2 l3
      clear hsa
      go_wp2
      go_quiet (first | (go_at_call 4; refine Calls.quiet_of_same (clamp_any _ _ _)))
      go_wp2
      go_roundg (gk - 1)
      case measure => omega
      case rel => exact ⟨k + 1, by omega, by go_num, (HK.out.alloc _).drewN _⟩
    · go_wp2
      exact ⟨rfl, ⟨rfl, rfl⟩, HK.out⟩
end Go.Proofs.Ybulkexnvq
