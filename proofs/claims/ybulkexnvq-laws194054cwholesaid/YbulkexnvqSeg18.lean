/-
  THE LAW's ITEM 18: the stands' keys are as they were laid.
-/
import Derived.Test.YbulkexnvqSegF
import Derived.Test.YbulkexnvqPlain
namespace Go.Proofs.Ybulkexnvq
open Go Go.RowKit Go.Maps

set_option maxRecDepth 100000 in
set_option maxHeartbeats 3200000 in
theorem seg18 (I : Inp) (d : SetsD) (B sb scap : Nat) (so : Option Addr) (v0 v28 v33 : Value) (w0 w : World) (a : Act) (fr : Fr a) (c0 : cell a 0 = v0) (c1 : cell a 1 = .slice I.sa I.m I.sc) (c15 : cell a 15 = .slice so I.m scap) (c28 : cell a 28 = v28) (c33 : cell a 33 = v33)
    (hin : InAt I w0) (hbl : Below w0.heap.size w0 w) (hso0 : 0 < I.m → so = some ⟨sb, 0, none⟩) (hsb : ∀ k, k < I.m → w.cell? ⟨sb, k, none⟩ = some (.pointer (some ⟨d.st k, 0, none⟩))) (hst : StandsAt d B I.m w)
    (hkn : d.kn = I.kn) (hS : d.S = I.S) (hm4 : I.m ≤ 4096) (htot : ∀ k, k < I.m → I.kn k ≤ 65536) :
    Code.wp Yba.prog (item 18) (PostK v0 (.slice I.sa I.m I.sc) (.slice so I.m scap) v28 v33 w) a w := by
  rw [fr.open']
  unfold listF
  rw [c0, c1, c15, c28, c33]
  clear c0 c1 c15 c28 c33 fr
  generalize cell a = f
  clear a
  conv => arg 2; whnf
  have HIN := mkHid hin
  have HBL := mkHid hbl
  have HSB := mkHid hsb
  have HST := mkHid hst
  have HKN := mkHid hkn
  have HS := mkHid hS
  have HT := mkHid htot
  clear hin hbl hsb hst hkn hS htot
  generalize hsa : I.sa = sa
  have HSA := mkHid hsa
  clear hsa
  go_wp2
  go_loopg [284] I.m (fun g ix wr => ∃ k : Nat, k + g = I.m ∧ ix = .int .i64 k ∧ Kept (fun _ => False) w wr)
  case atStart => exact ⟨0, by omega, rfl, Kept.refl _ _⟩
  case round =>
    obtain ⟨k, hk, rfl, hkp⟩ := hrel
    have HK := mkHid hkp
    clear hkp
    by_cases hlt : k < I.m
    · obtain ⟨b, off, hsa, q0, q1, q2⟩ := (HIN.out.below (Below.kept' HBL.out HK.out (fun _ _ h => h) (Nat.le_refl _))).sets k hlt
      obtain rfl := HSA.out.symm.trans hsa
      obtain rfl := hso0 (by omega)
      have p1 := HK.out.cell (HSB.out k hlt) (fun h => h)
      have p2 := HK.out.cell (HST.out.st k hlt).2 (fun h => h)
      rw [HKN.out] at p2
      have l1 := World.block_lt_of_cell? _ _ q0
      have l2 := World.block_lt_of_cell? _ _ p1
      have l3 := World.block_lt_of_cell? _ _ p2
      have hkn := HT.out k hlt
      simp only at l1 l2 l3
      clear hsa
      generalize hka : I.ka k = kak at q0
      have HKA := mkHid hka
      have HA := mkHid (HK.out.alloc (.cells #[.slice kak (I.kn k) (I.kc k), .int .i64 (I.Lo k), .int .i64 (I.Hi k)] 26))
      clear hka
      go_wp2
      go_quiet (fail)
      go_wp2
      clear q0 q1 q2 p1 p2
      obtain ⟨G, hG⟩ : ∃ G, G = gk := ⟨_, rfl⟩
      subst hG
      generalize wr.heap.size = P at *
      go_loopg [305] (I.kn k) (fun g ix wy => ∃ j : Nat, j + g = I.kn k ∧ ix = .int .i64 j ∧ Kept (fun _ => False) w wy)
      case atStart => exact ⟨0, by omega, rfl, HA.out.drewN _⟩
      case round =>
        obtain ⟨j, hj, rfl, hk2⟩ := hrel
        have HK2 := mkHid hk2
        clear hk2 HA
        by_cases hjl : j < I.kn k
        · obtain ⟨b', off', hka, q0⟩ := (HIN.out.below (Below.kept' HBL.out HK2.out (fun _ _ h => h) (Nat.le_refl _))).keys k hlt j hjl
          obtain rfl := HKA.out.symm.trans hka
          have hjd : j < d.kn k := by rw [HKN.out]; exact hjl
          have p2 := HK2.out.cell (HST.out.st k hlt).2 (fun h => h)
          rw [HKN.out] at p2
          have p3 := HK2.out.cell (HST.out.kb k hlt j hjd).2 (fun h => h)
          have cv := conv_back wr (d.bb k j) (d.S k j) (d.bc k j) ((HST.out.bb k hlt j hjd).2.kept HK2.out (fun h => h))
          rw [HS.out] at p3 cv
          clear hka hjd
          go_wp2
          go_roundg (gk - 1)
          case measure => omega
          case rel => exact ⟨j + 1, by omega, by go_num, HK2.out⟩
        · go_wp2
          go_roundg (G - 1)
          case measure => omega
          case rel => exact ⟨k + 1, by omega, by go_num, HK2.out⟩
    · go_wp2
      exact ⟨rfl, ⟨rfl, rfl⟩, ⟨rfl, rfl, rfl, rfl, rfl⟩, HK.out⟩
end Go.Proofs.Ybulkexnvq
