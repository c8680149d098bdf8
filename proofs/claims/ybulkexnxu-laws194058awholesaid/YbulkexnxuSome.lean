import Derived.Test.YbulkexnxuWalks
namespace Go.Proofs.Ybulkexnxu
open Go Go.RowKit

set_option maxHeartbeats 1600000 in
theorem law_some (b off n cap : Nat) (s : Nat → ByteArray) (w : World) (hn0 : 0 < n) (hn : n ≤ 65536) (hc : ∀ i, i < n → w.cell? ⟨b, off + i, none⟩ = some (.string (s i))) :
    Calls Yba.prog 3 #[.slice (some ⟨b, off, none⟩) n cap] w fun e w' => e = .returned (.bool true) ∧ Below w.heap.size w w' := by
  have m1 := make25 n hn
  have m2 := make33 n hn
  have hbl : b < w.heap.size := World.block_lt_of_cell? _ _ (hc 0 hn0)
  have HC : Hid (∀ i, i < n → w.cell? ⟨b, off + i, none⟩ = some (.string (s i))) := hc
  clear hc
  go_enter Yba.func3, Yba.ntmps3
  go_wp2
  go_loopg [5] n (fun g i wr => ∃ k : Nat, k + g = n ∧ i = .int .i64 k ∧ L1 w n s k wr)
  case atStart => exact ⟨0, by omega, rfl, L1.start w n s⟩
  case round =>
    obtain ⟨k, hk, rfl, H⟩ := hrel
    by_cases hlt : k < n
    · have c1 : wr.cell? ⟨b, off + k, none⟩ = some (.string (s k)) := (H.below.cell hbl).trans (HC.out k hlt)
      have c2 : wr.cell? ⟨w.heap.size, k, none⟩ = some (.pointer none) := by simpa using H.st.cell hlt
      have c3 : wr.cell? ⟨w.heap.size + 1, k, none⟩ = some .nilIface := by simpa using H.bo.cell hlt
      have f2 := H.st.frozen k
      have f3 := H.bo.frozen k
      have l2 := H.st.lt
      have l3 := H.bo.lt
      have HH : Hid (L1 w n s k wr) := H
      clear H m1 m2
      go_wp2
      go_roundg (n - (k + 1))
      case measure => omega
      case rel => exact ⟨k + 1, by omega, by go_num, HH.out.step⟩
    · obtain rfl : k = n := by omega
      have c0 : w.cell? ⟨b, off, none⟩ = some (.string (s 0)) := by simpa using HC.out 0 hn0
      have c1 : wr.cell? ⟨b, off, none⟩ = some (.string (s 0)) := (H.below.cell hbl).trans c0
      have l1 : b < wr.heap.size := Nat.lt_of_lt_of_le hbl H.below.size
      have l2 := H.st.lt
      have l3 := H.bo.lt
      have c3 : wr.cell? ⟨w.heap.size + 1, 0, none⟩ = some (.iface 25 (.pointer (some ⟨w.heap.size + 2, 0, none⟩))) := by simpa [hn0] using H.bo.cell hn0
      have R0 : Hid (∀ o, RowF (wr.alloc o) (w.heap.size + 2) 31 9 (bodyF (s 0) 0)) := fun o => (H.bl 0 hn0).alloc o
      have h0 : (0 : Int) < (k : Int) := by omega
      have HH : Hid (L1 w k s k wr) := H
      clear H m1 m2
      go_wp2_with (go_at_call 4; refine (range4_some wr.heap.size (w.heap.size + 1) k (w.heap.size + 2) (s 0) _ hn0 (by simp) (by simp [World.cell?_alloc_past, l3, c3]) (R0.out _)).mono ?_; rintro e w' ⟨rfl, hw⟩; have H2 : Hid (L2 w k s wr.heap.size w') := (by rw [hw]; exact HH.out.toL2 hn0 _ _); have c4 := (H2.out.below.cell hbl).trans c0; have l4 : b < w'.heap.size := Nat.lt_of_lt_of_le hbl H2.out.below.size; have c5 := H2.out.mc; have l5 : wr.heap.size < w'.heap.size := World.block_lt_of_cell? _ _ c5; clear hw)
      clear c0 c1 c3 c4 l1 l2 l3 l4 l5 R0 HH c5
      generalize wr.heap.size = m at *
      go_loopg [9] k (fun g i w2 => ∃ j : Nat, j + g = k ∧ i = .int .i64 j ∧ L2 w k s m w2)
      case atStart => exact ⟨0, by omega, rfl, (H2.out.alloc _).alloc _⟩
      case round =>
        obtain ⟨j, hj, rfl, H3⟩ := hrel
        clear H2
        have H4 : Hid (L2 w k s m wr) := H3
        by_cases hjk : j < k
        · have q1 := H3.mc
          have q2 := H3.st.cell hjk
          have q3 := H3.bo.cell hjk
          have q4 := (H3.below.cell (p := ⟨b, off + j, none⟩) hbl).trans (HC.out j hjk)
          have q5 := (H3.bl j hjk).cell (i := 0) (by decide)
          have q6 := (H3.bl j hjk).cell (i := 7) (by decide)
          have q7 := (H3.bl j hjk).cell (i := 8) (by decide)
          have hq := neq_same ⟨w.heap.size + 2 + j, 0, none⟩
          simp only [bodyF] at q5 q6 q7
          clear H3
          by_cases e : j = 0
          · rw [if_pos e] at q6
            have e2 : ((j : Int) == 0) = true := by simpa using e
            clear e
            go_wp2
            go_quiet (fail)
            go_wp2
            go_quiet (fail)
            go_wp2
            go_roundg (gk - 1)
            case measure => omega
            case rel => exact ⟨j + 1, by omega, by go_num, H4.out.drewN _⟩
          · rw [if_neg e] at q6
            have e2 : ((j : Int) == 0) = false := by simpa using e
            clear e
            go_wp2
            go_quiet (fail)
            go_wp2
            go_quiet (fail)
            go_wp2
            go_roundg (gk - 1)
            case measure => omega
            case rel => exact ⟨j + 1, by omega, by go_num, H4.out.drewN _⟩
        · clear H3
          go_wp2
          go_ret
          exact ⟨rfl, H4.out.below⟩
end Go.Proofs.Ybulkexnxu
