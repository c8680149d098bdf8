import Derived.Test.YbulkexnxuWalks
namespace Go.Proofs.Ybulkexnxu
open Go Go.RowKit


set_option maxHeartbeats 1600000 in
theorem law_zero (a : Option Addr) (cap : Nat) (w : World) :
    Calls Yba.prog 3 #[.slice a 0 cap] w fun e w' => e = .returned (.bool true) ∧ Below w.heap.size w w' := by
  have m1 : ∀ w : World, (Instr.makeSlice 23 (.int .i64 0) (.int .i64 0)).run Yba.prog w = .ok (.slice (some ⟨w.heap.size, 0, none⟩) 0 0) (w.alloc (.cells #[] 25)) := fun w => (make25 0 (by decide) w).trans (by rw [show madeCells #[.pointer none] 0 = #[] by simp [madeCells, Array.range_zero']])
  have m2 : ∀ w : World, (Instr.makeSlice 24 (.int .i64 0) (.int .i64 0)).run Yba.prog w = .ok (.slice (some ⟨w.heap.size, 0, none⟩) 0 0) (w.alloc (.cells #[] 33)) := fun w => (make33 0 (by decide) w).trans (by rw [show madeCells #[.nilIface] 0 = #[] by simp [madeCells, Array.range_zero']])
  have hz : (((w.alloc (.cells #[] 25)).alloc (.cells #[] 33)).alloc (.cells #[.slice (some ⟨w.heap.size + 1, 0, none⟩) 0 0] 36)).cell? ⟨w.heap.size + 1 + 1, 0, none⟩ = some (.slice (some ⟨w.heap.size + 1, 0, none⟩) 0 0) := by
    rw [World.cell?_alloc_at (hn := by simp)]; rfl
  have HZ : Hid _ := hz
  clear hz
  go_enter Yba.func3, Yba.ntmps3
  go_wp2
  refine wp_loop_rounds 1 ?_
  rw [rounds_succ]
  go_wp2_with (go_at_call 4; refine (range4_none (w.heap.size + 1 + 1) (some ⟨w.heap.size + 1, 0, none⟩) _ HZ.out).mono ?_; rintro e w' ⟨rfl, rfl⟩)
  refine wp_loop_rounds 1 ?_
  rw [rounds_succ]
  go_wp2
  go_ret
  exact ⟨rfl, by repeat (first | exact Below.refl _ _ | refine Below.alloc ?_ (by first | exact Nat.le_refl _ | (simp only [World.size_alloc]; omega)) _)⟩

theorem law_long (a : Option Addr) (n cap : Nat) (hn : 65536 < n) (w : World) :
    Calls Yba.prog 3 #[.slice a n cap] w fun e w' => e = .returned (.bool true) ∧ Below w.heap.size w w' := by
  go_enter Yba.func3, Yba.ntmps3
  go_wp2
  go_ret
  exact ⟨rfl, Below.refl _ _⟩
end Go.Proofs.Ybulkexnxu
