/-
  PLAIN: a set of numbers as words of 64 bits.
-/
import Derived.Laws.BitsAllLaws
namespace Go.Proofs.Ybulkexnyi

/-- The low m bits of word k of the set p. -/
def wrdN (p : Nat → Bool) (k : Nat) : Nat → Nat
  | 0 => 0
  | m + 1 => wrdN p k m ||| (if p (64 * k + m) then 2 ^ m else 0)
/-- Word k of the set p. -/
def wrd (p : Nat → Bool) (k : Nat) : Nat := wrdN p k 64

theorem wrdN_testBit (p : Nat → Bool) (k m j : Nat) : (wrdN p k m).testBit j = (decide (j < m) && p (64 * k + j)) := by
  induction m with
  | zero => simp [wrdN]
  | succ m ih =>
    simp only [wrdN, Nat.testBit_or, ih]
    by_cases e : j = m
    · subst e
      by_cases hp : p (64 * k + j)
      · simp [hp]
      · simp [hp]
    · have h1 : (if p (64 * k + m) = true then 2 ^ m else 0).testBit j = false := by
        split
        · rw [Nat.testBit_two_pow]; simp; omega
        · simp
      rw [h1, Bool.or_false]
      have : (j < m) ↔ (j < m + 1) := by omega
      simp only [this]

theorem wrd_testBit (p : Nat → Bool) (k j : Nat) : (wrd p k).testBit j = (decide (j < 64) && p (64 * k + j)) := wrdN_testBit p k 64 j

theorem wrdN_lt (p : Nat → Bool) (k m : Nat) : wrdN p k m < 2 ^ m := by
  induction m with
  | zero => simp [wrdN]
  | succ m ih =>
    simp only [wrdN]
    apply Nat.or_lt_two_pow
    · exact Nat.lt_trans ih (Nat.pow_lt_pow_right (by decide) (Nat.lt_succ_self m))
    · split
      · exact Nat.pow_lt_pow_right (by decide) (Nat.lt_succ_self m)
      · exact Nat.two_pow_pos _

theorem wrd_lt (p : Nat → Bool) (k : Nat) : wrd p k < 18446744073709551616 := wrdN_lt p k 64

theorem wrd_congr {p q : Nat → Bool} {k : Nat} (h : ∀ j, j < 64 → p (64 * k + j) = q (64 * k + j)) : wrd p k = wrd q k := by
  apply Nat.eq_of_testBit_eq
  intro j
  rw [wrd_testBit, wrd_testBit]
  by_cases hj : j < 64
  · simp [hj, h j hj]
  · simp [hj]

theorem wrd_or (p q : Nat → Bool) (k : Nat) : wrd p k ||| wrd q k = wrd (fun j => p j || q j) k := by
  apply Nat.eq_of_testBit_eq
  intro j
  rw [Nat.testBit_or, wrd_testBit, wrd_testBit, wrd_testBit, Bool.and_or_distrib_left]

theorem wrd_zero (k : Nat) : wrd (fun _ => false) k = 0 := by
  apply Nat.eq_of_testBit_eq
  intro j
  rw [wrd_testBit]; simp

theorem wrd_add (p : Nat → Bool) (i : Nat) : wrd p (i / 64) ||| 2 ^ (i % 64) = wrd (fun j => j == i || p j) (i / 64) := by
  apply Nat.eq_of_testBit_eq
  intro j
  rw [Nat.testBit_or, wrd_testBit, wrd_testBit, Nat.testBit_two_pow]
  have hm : i % 64 < 64 := Nat.mod_lt _ (by decide)
  have hd : 64 * (i / 64) + i % 64 = i := Nat.div_add_mod i 64
  by_cases e : i % 64 = j
  · subst e
    simp [hm, hd]
  · have e2 : ¬ (64 * (i / 64) + j = i) := by omega
    have e3 : (64 * (i / 64) + j == i) = false := by simpa using e2
    rw [e3, Bool.false_or]
    simp [e]

theorem wrd_other (p : Nat → Bool) (i k : Nat) (h : k ≠ i / 64) : wrd (fun j => j == i || p j) k = wrd p k := by
  apply wrd_congr
  intro j hj
  have : ¬ (64 * k + j = i) := by omega
  simp [this]

theorem wrd_has (p : Nat → Bool) (i : Nat) : (wrd p (i / 64) &&& 2 ^ (i % 64) != 0) = p i := by
  have hm : i % 64 < 64 := Nat.mod_lt _ (by decide)
  have hd : 64 * (i / 64) + i % 64 = i := Nat.div_add_mod i 64
  have hb : (wrd p (i / 64)).testBit (i % 64) = p i := by rw [wrd_testBit, hd]; simp [hm]
  cases h : p i
  · rw [h] at hb
    have : wrd p (i / 64) &&& 2 ^ (i % 64) = 0 := by
      apply Nat.eq_of_testBit_eq
      intro j
      rw [Nat.testBit_and, Nat.testBit_two_pow, Nat.zero_testBit]
      by_cases e : i % 64 = j
      · subst e; simp [hb]
      · simp [e]
    simp [this]
  · rw [h] at hb
    have : wrd p (i / 64) &&& 2 ^ (i % 64) ≠ 0 := fun e => by
      have h2 := congrArg (fun x => x.testBit (i % 64)) e
      simp [Nat.testBit_and, hb] at h2
    simpa using this
end Go.Proofs.Ybulkexnyi
