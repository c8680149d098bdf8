/-
  THE LAW's ITEM 20: the owner's held keys are as they were laid.
-/
import Derived.Test.YbulkexnvqSegF
import Derived.Test.YbulkexnvqPlain
namespace Go.Proofs.Ybulkexnvq
open Go Go.RowKit Go.Maps

set_option maxRecDepth 100000 in
set_option maxHeartbeats 3200000 in
theorem seg20 (I : Inp) (ob mb nn : Nat) (v1 v15 v28 : Value) (w0 w : World) (a : Act) (fr : Fr a) (c0 : cell a 0 = .slice I.ha I.n I.hc) (c1 : cell a 1 = v1) (c15 : cell a 15 = v15) (c28 : cell a 28 = v28) (c33 : cell a 33 = .pointer (some ⟨ob, 0, none⟩))
    (hin : InAt I w0) (hbl : Below w0.heap.size w0 w) (o2 : w.cell? ⟨ob, 2, none⟩ = some (.map (some mb))) (hown : w.ownsMap Yba.prog 9 (plainElem Yba.prog 27) mb nn (Dn I.K I.M I.n)) (hn : I.n ≤ 4096) (hK : ∀ i, (I.K i).size ≤ maxLen) :
    Code.wp Yba.prog (item 20) (PostK (.slice I.ha I.n I.hc) v1 v15 v28 (.pointer (some ⟨ob, 0, none⟩)) w) a w := by
  rw [fr.open']
  unfold listF
  rw [c0, c1, c15, c28, c33]
  clear c0 c1 c15 c28 c33 fr
  generalize cell a = f
  clear a
  conv => arg 2; whnf
  have HIN := mkHid hin
  have HBL := mkHid hbl
  have HO := mkHid o2
  have HOWN := mkHid hown
  have HKK := mkHid hK
  clear hin hbl o2 hown hK
  generalize hha : I.ha = ha
  have HHA := mkHid hha
  clear hha
  go_wp2
  go_loopg [331] I.n (fun g ix wr => ∃ k : Nat, k + g = I.n ∧ ix = .int .i64 k ∧ Kept (fun _ => False) w wr)
  case atStart => exact ⟨0, by omega, rfl, Kept.refl _ _⟩
  case round =>
    obtain ⟨k, hk, rfl, hkp⟩ := hrel
    have HK := mkHid hkp
    clear hkp
    by_cases hlt : k < I.n
    · have HI := mkHid (HIN.out.below (Below.kept' HBL.out HK.out (fun _ _ h => h) (Nat.le_refl _)))
      obtain ⟨b, off, hha, q0, q1⟩ := HI.out.held k hlt
      obtain rfl := HHA.out.symm.trans hha
      have l1 := World.block_lt_of_cell? _ _ q0
      simp only at l1
      clear hha
      have HA := mkHid (HK.out.alloc (.cells #[.string (I.K k), .int .u8 (I.M k)] 30))
      have HR := mkHid (RowF.alloc_new wr 30 #[.string (I.K k), .int .u8 (I.M k)] 2 (fun i => if i = 0 then .string (I.K k) else .int .u8 (I.M k)) (by simp [List.range, List.range.loop]))
      go_wp2
      clear q0 q1
      obtain ⟨G, hG⟩ : ∃ G, G = gk := ⟨_, rfl⟩
      subst hG
      generalize hP : wr.heap.size = P at *
      have HP := mkHid hP
      clear hP
      cases hl : lastB I.K I.n k with
      | true =>
        have HL := mkHid (lastB_true.1 hl)
        clear hl
        go_loopg [51, 50] (I.n - (k + 1)) (fun g ix lv wy => ∃ j : Nat, k < j ∧ j + g = I.n ∧ ix = .int .i64 j ∧ lv = .bool true ∧ Kept (fun _ => False) w wy ∧ RowF wy P 30 2 (fun i => if i = 0 then .string (I.K k) else .int .u8 (I.M k)))
        case atStart => exact ⟨k + 1, by omega, by omega, by go_num, rfl, HA.out, HR.out⟩
        case round =>
          obtain ⟨j, hj0, hj1, rfl, rfl, hk2, hr2⟩ := hrel
          have HK2 := mkHid hk2
          have HR2 := mkHid hr2
          have z0 : wr.cell? ⟨P, 0, none⟩ = some (.string (I.K k)) := hr2.cell (i := 0) (by decide)
          have z1 : wr.cell? ⟨P, 1, none⟩ = some (.int .u8 (I.M k)) := hr2.cell (i := 1) (by decide)
          clear hk2 hr2 HA HR
          by_cases hj : j < I.n
          · obtain ⟨b', off', hha', q0, q1⟩ := (HIN.out.below (Below.kept' HBL.out HK2.out (fun _ _ h => h) (Nat.le_refl _))).held j hj
            cases HHA.out.symm.trans hha'
            have hne := beq_ne (HL.out j hj0 hj)
            clear hha' q1 z1
            go_wp2
            go_quiet (fail)
            go_wp2
            go_roundg (gk - 1)
            case measure => omega
            case rel => exact ⟨j + 1, by omega, by omega, by go_num, rfl, HK2.out.drewN _, HR2.out.drewN _⟩
          · have p2 := HK2.out.cell HO.out (fun h => h)
            have lk : ∀ q, (Instr.lookup 28 (.map (some mb)) (.string (I.K k)) true).run Yba.prog (wr.drewN q) = .ok (.tuple #[.int .u8 (I.M k), .bool true]) (wr.drewN q) := fun q => look_last (ownsMap_block HOWN.out (HK2.out.block mb HOWN.out.lt (fun h => h))) hlt HL.out (HKK.out k)
            have lk0 := lk 0
            go_wp2
            go_quiet (fail)
            go_wp2
            go_roundg (G - 1)
            case measure => omega
            case rel => exact ⟨k + 1, by omega, by go_num, HK2.out.drewN _⟩
      | false =>
        obtain ⟨j0, hj00, hj01, hj02, hj03⟩ := lastB_false hl
        have HL := mkHid hj03
        have HE := mkHid hj02
        clear hl hj03 hj02
        go_loopg [51, 50] (j0 - (k + 1)) (fun g ix lv wy => ∃ j : Nat, k < j ∧ j + g = j0 ∧ ix = .int .i64 j ∧ lv = .bool true ∧ Kept (fun _ => False) w wy ∧ RowF wy P 30 2 (fun i => if i = 0 then .string (I.K k) else .int .u8 (I.M k)))
        case atStart => exact ⟨k + 1, by omega, by omega, by go_num, rfl, HA.out, HR.out⟩
        case round =>
          obtain ⟨j, hj0, hj1, rfl, rfl, hk2, hr2⟩ := hrel
          have HK2 := mkHid hk2
          have HR2 := mkHid hr2
          have z0 : wr.cell? ⟨P, 0, none⟩ = some (.string (I.K k)) := hr2.cell (i := 0) (by decide)
          clear hk2 hr2 HA HR
          have hj : j < I.n := by omega
          obtain ⟨b', off', hha', q0, q1⟩ := (HIN.out.below (Below.kept' HBL.out HK2.out (fun _ _ h => h) (Nat.le_refl _))).held j hj
          cases HHA.out.symm.trans hha'
          clear hha' q1
          by_cases hjj : j < j0
          · have hne := beq_ne (HL.out j hj0 hjj)
            go_wp2
            go_quiet (fail)
            go_wp2
            go_roundg (gk - 1)
            case measure => omega
            case rel => exact ⟨j + 1, by omega, by omega, by go_num, rfl, HK2.out.drewN _, HR2.out.drewN _⟩
          · obtain rfl : j = j0 := by omega
            have hne := beq_eq HE.out
            go_wp2
            go_quiet (fail)
            go_wp2
            go_roundg (G - 1)
            case measure => omega
            case rel => exact ⟨k + 1, by omega, by go_num, HK2.out.drewN _⟩
    · go_wp2
      exact ⟨rfl, ⟨rfl, rfl⟩, ⟨rfl, rfl, rfl, rfl, rfl⟩, HK.out⟩
end Go.Proofs.Ybulkexnvq
