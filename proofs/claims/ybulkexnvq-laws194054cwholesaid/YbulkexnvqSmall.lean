/-
  zzs194054cclamp (4), (*zzs194054cks).Key (64); bytes and strings.
-/
import Derived.Test.YbulkexnvqMem
import Derived.Test.YbulkexnvqShelf
namespace Go.Proofs.Ybulkexnvq
open Go Go.RowKit

/-- What clamp answers. -/
def clampN (x : Int) (n : Nat) : Nat := if x < 0 then 0 else if (n : Int) < x then n else x.toNat

theorem clampN_le (x : Int) (n : Nat) : clampN x n ≤ n := by
  unfold clampN
  split
  · omega
  · split <;> omega

theorem clamp_any (x : Int) (n : Nat) (w : World) : Calls Yba.prog 4 #[.int .i64 x, .int .i64 n] w fun e w' => e = .returned (.int .i64 (clampN x n)) ∧ w' = w := by
  by_cases h0 : x < 0
  · have e : clampN x n = 0 := by simp only [clampN, if_pos h0]
    rw [e]
    go_enter Yba.func4, Yba.ntmps4
    go_wp2
    go_ret
    exact ⟨rfl, rfl⟩
  · by_cases h1 : (n : Int) < x
    · have e : clampN x n = n := by simp only [clampN, if_neg h0, if_pos h1]
      rw [e]
      go_enter Yba.func4, Yba.ntmps4
      go_wp2
      go_ret
      exact ⟨rfl, rfl⟩
    · have e : ((clampN x n : Nat) : Int) = x := by simp only [clampN, if_neg h0, if_neg h1]; omega
      rw [e]
      go_enter Yba.func4, Yba.ntmps4
      go_wp2
      go_ret
      exact ⟨rfl, rfl⟩

theorem key_any (s kb n c i : Nat) (v : Value) (w : World) (hi : i < n) (h0 : w.cell? ⟨s, 0, none⟩ = some (.slice (some ⟨kb, 0, none⟩) n c)) (h1 : w.cell? ⟨kb, i, none⟩ = some v) :
    Calls Yba.prog 64 #[.pointer (some ⟨s, 0, none⟩), .int .i64 i] w fun e w' => e = .returned v ∧ w' = w := by
  go_enter Yba.func64, Yba.ntmps64
  go_wp2
  go_ret
  exact ⟨rfl, rfl⟩
end Go.Proofs.Ybulkexnvq
