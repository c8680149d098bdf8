/-
  THE WORKLIST: plain invariants; its memory.
-/
import Derived.Test.YbulkexnyiClo
namespace Go.Proofs.Ybulkexnyi
open Go Go.RowKit

/-! ### plain -/
/-- How many below n are not in S. -/
def cnt : Nat → (Nat → Bool) → Nat
  | 0, _ => 0
  | n + 1, S => cnt n S + (if S n then 0 else 1)

/-- S and j. -/
def put (S : Nat → Bool) (j : Nat) : Nat → Bool := fun i => i == j || S i

theorem put_same (S : Nat → Bool) (j : Nat) : put S j j = true := by simp [put]
theorem put_of (S : Nat → Bool) (j i : Nat) (h : S i = true) : put S j i = true := by simp [put, h]
theorem put_iff (S : Nat → Bool) (j i : Nat) : put S j i = true ↔ (i = j ∨ S i = true) := by simp [put]

theorem cnt_le (n : Nat) (S : Nat → Bool) : cnt n S ≤ n := by
  induction n with
  | zero => exact Nat.le_refl _
  | succ n ih => simp only [cnt]; split <;> omega

theorem cnt_put_ge (n : Nat) (S : Nat → Bool) (j : Nat) (h : n ≤ j) : cnt n (put S j) = cnt n S := by
  induction n with
  | zero => rfl
  | succ n ih =>
    have e : put S j n = S n := by
      have : (n == j) = false := by simp; omega
      simp [put, this]
    simp only [cnt, e, ih (by omega)]

theorem cnt_put (n : Nat) (S : Nat → Bool) (j : Nat) (h : j < n) (hs : S j = false) : cnt n (put S j) + 1 = cnt n S := by
  induction n with
  | zero => omega
  | succ n ih =>
    by_cases e : j = n
    · subst e
      simp only [cnt, put_same, hs, cnt_put_ge j S j (Nat.le_refl _)]
      simp
    · have e1 : put S j n = S n := by
        have : (n == j) = false := by simp; omega
        simp [put, this]
      have := ih (by omega)
      simp only [cnt, e1]
      omega

theorem cnt_full (n : Nat) : cnt n (fun _ => false) = n := by
  induction n with
  | zero => rfl
  | succ n ih => simp [cnt, ih]

/-- What the worklist keeps: the seen are the done and the waiting; all of them are reached. -/
structure PI (aft : Nat → List Nat) (n x : Nat) (S p : Nat → Bool) (stk : List Nat) : Prop where
  s : ∀ i, S i = true ↔ (p i = true ∨ i ∈ stk)
  r : ∀ i, S i = true → R aft n x i = true

theorem PI.push {aft : Nat → List Nat} {n x : Nat} {S p : Nat → Bool} {stk : List Nat} (h : PI aft n x S p stk) {j : Nat} (hj : R aft n x j = true) : PI aft n x (put S j) p (stk ++ [j]) :=
  ⟨fun i => by rw [put_iff, h.s i]; simp only [List.mem_append, List.mem_singleton]; constructor
               · rintro (h1 | h1 | h1)
                 · exact .inr (.inr h1)
                 · exact .inl h1
                 · exact .inr (.inl h1)
               · rintro (h1 | h1 | h1)
                 · exact .inr (.inl h1)
                 · exact .inr (.inr h1)
                 · exact .inl h1,
   fun i hi => by rcases (put_iff S j i).1 hi with rfl | h1; exact hj; exact h.r i h1⟩

theorem PI.pop {aft : Nat → List Nat} {n x : Nat} {S p : Nat → Bool} {stk : List Nat} {k : Nat} (h : PI aft n x S p (stk ++ [k])) : PI aft n x S (put p k) stk :=
  ⟨fun i => by rw [h.s i, put_iff]; simp only [List.mem_append, List.mem_singleton]; constructor
               · rintro (h1 | h1 | h1)
                 · exact .inl (.inr h1)
                 · exact .inr h1
                 · exact .inl (.inl h1)
               · rintro ((h1 | h1) | h1)
                 · exact .inr (.inr h1)
                 · exact .inl h1
                 · exact .inr (.inl h1), h.r⟩

/-! ### in memory -/
def ints (l : List Nat) : List Value := l.map fun x : Nat => Value.int .i64 x

/-- The worklist's three blocks (the set, the seen, the stack) in the world wr; w: the world when the call began. -/
structure Wk (y : Lay) (w : World) (S p : Nat → Bool) (stk : List Nat) (sv : Value) (wr : World) : Prop where
  set : SetAt wr w.heap.size y.W p
  seen : RowF wr (w.heap.size + 1) 4 y.nn (fun i => .bool (S i))
  own : wr.ownsRow (w.heap.size + 2) 3 1 sv stk.length (ints stk)
  shape : ∃ g cap, sv = .slice (some ⟨g, 0, none⟩) stk.length cap
  kept : Kept (fun _ => False) w wr
  size : w.heap.size + 2 ≤ wr.heap.size

theorem Wk.block {y : Lay} {w : World} {S p : Nat → Bool} {stk : List Nat} {sv : Value} {wr : World} (h : Wk y w S p stk sv wr) : ∀ g, sv.ownBlock = some g → w.heap.size + 2 ≤ g := fun g hg => (h.own.lt g hg).1

/-- What append's law asks, behind the store into the seen and the new one-cell row. -/
theorem Wk.pre {y : Lay} {w : World} {S p : Nat → Bool} {stk : List Nat} {sv : Value} {wr : World} (h : Wk y w S p stk sv wr) (j : Nat) :
    ((wr.setCell ⟨w.heap.size + 1, j, none⟩ (.bool true)).alloc (.cells #[.int .i64 j] 3)).ownsRow (w.heap.size + 2) 3 1 sv stk.length (ints stk) ∧
    (∀ i u, ([.int .i64 j] : List Value)[i]? = some u → ((wr.setCell ⟨w.heap.size + 1, j, none⟩ (.bool true)).alloc (.cells #[.int .i64 j] 3)).cell? ((⟨wr.heap.size, 0, none⟩ : Addr).add i) = some u) ∧
    w.heap.size + 2 ≤ ((wr.setCell ⟨w.heap.size + 1, j, none⟩ (.bool true)).alloc (.cells #[.int .i64 j] 3)).heap.size := by
  have hz := h.size
  have e : (wr.setCell ⟨w.heap.size + 1, j, none⟩ (.bool true)).heap.size = wr.heap.size := by simp [World.setCell]
  refine ⟨World.ownsRow.alloc (ownsRow_of_block h.own fun g hg => Below.heap_setCell _ _ _ _ (by have := h.block g hg; show g ≠ w.heap.size + 1; omega)) _, fun i u hu => ?_, by rw [World.size_alloc, e]; omega⟩
  match i, hu with
  | 0, hu =>
    simp only [List.getElem?_cons_zero, Option.some.injEq] at hu
    subst hu
    show ((wr.setCell ⟨w.heap.size + 1, j, none⟩ (.bool true)).alloc (.cells #[.int .i64 j] 3)).cell? ⟨wr.heap.size, 0, none⟩ = _
    rw [World.cell?_alloc_at (n := wr.heap.size) (hn := e.symm)]
    rfl
  | i + 1, hu => simp at hu

theorem Wk.push {y : Lay} {w : World} {S p : Nat → Bool} {stk : List Nat} {sv : Value} {wr : World} (h : Wk y w S p stk sv wr) (j : Nat) {v' : Value} {w2 : World}
    (ho : w2.ownsRow (w.heap.size + 2) 3 1 v' (stk.length + 1) (ints stk ++ [.int .i64 j]))
    (hg : ((wr.setCell ⟨w.heap.size + 1, j, none⟩ (.bool true)).alloc (.cells #[.int .i64 j] 3)).grownBy w2 sv.ownBlock) (hn : v' ≠ .slice none 0 0) : Wk y w (put S j) p (stk ++ [j]) v' w2 := by
  have hb := h.block
  have hz := h.size
  have hk : Kept (fun b => b = w.heap.size + 1) wr ((wr.setCell ⟨w.heap.size + 1, j, none⟩ (.bool true)).alloc (.cells #[.int .i64 j] 3)) := ((Kept.refl (fun b => b = w.heap.size + 1) wr).setCell (p := ⟨w.heap.size + 1, j, none⟩) (.inl rfl) _).alloc _
  have hsz : ((wr.setCell ⟨w.heap.size + 1, j, none⟩ (.bool true)).alloc (.cells #[.int .i64 j] 3)).heap.size = wr.heap.size + 1 := by simp [World.setCell]
  have hk2 : Kept (fun b => sv.ownBlock = some b) ((wr.setCell ⟨w.heap.size + 1, j, none⟩ (.bool true)).alloc (.cells #[.int .i64 j] 3)) w2 := (Kept.refl _ _).grown hg (fun k hk => .inl hk)
  have no : ∀ b, b < w.heap.size + 2 → ¬ sv.ownBlock = some b := fun b hb' e => by have := hb b e; omega
  refine ⟨RowF.kept (RowF.kept h.set hk (by simp)) hk2 (no _ (by omega)), ?_, ?_, ?_, ?_, ?_⟩
  · exact (RowF.kept ((h.seen.set j (.bool true)).alloc _) hk2 (no _ (by omega))).congr fun i hi => by
      by_cases e : i = j
      · subst e; simp [put_same]
      · have : (i == j) = false := by simpa using e
        simp [put, e, this]
  · simpa [ints] using ho
  · rcases ho.2 with ⟨e, _⟩ | ⟨g, cap, cur, e, _⟩
    · exact absurd e hn
    · exact ⟨g, cap, by rw [e]; simp⟩
  · refine (h.kept.then' hk (fun i hi e => ?_)).then' hk2 (fun i hi e => ?_)
    · have : i = w.heap.size + 1 := e
      omega
    · exact no i (by omega) e
  · have := hk2.size
    omega

theorem Wk.pop {y : Lay} {w : World} {S p : Nat → Bool} {stk : List Nat} {g cap k : Nat} {wr : World} (h : Wk y w S p (stk ++ [k]) (.slice (some ⟨g, 0, none⟩) (stk.length + 1) cap) wr) :
    Wk y w S (put p k) stk (.slice (some ⟨g, 0, none⟩) stk.length cap) (wr.setCell ⟨w.heap.size, k / 64, none⟩ (.int .u64 (wrd (fun j => j == k || p j) (k / 64)))) := by
  have hb := h.block g rfl
  have hz := h.size
  have hk : Kept (fun b => b = w.heap.size) wr (wr.setCell ⟨w.heap.size, k / 64, none⟩ (.int .u64 (wrd (fun j => j == k || p j) (k / 64)))) := (Kept.refl (fun b => b = w.heap.size) wr).setCell (p := ⟨w.heap.size, k / 64, none⟩) (.inl rfl) _
  have ho := h.own
  rw [show ints (stk ++ [k]) = ints stk ++ [.int .i64 k] by simp [ints], show (stk ++ [k]).length = stk.length + 1 by simp] at ho
  have ho' := ownsRow_pop (xs := ints stk) (last := [.int .i64 k]) (by simp [ints]) ho
  refine ⟨?_, h.seen.kept hk (by simp), ownsRow_of_block ho' fun b hb' => hk.block b (ownsRow_lt ho' hb') (fun e => ?_), ⟨g, cap, rfl⟩, h.kept.then' hk (fun i hi e => ?_), by simpa [World.setCell] using hz⟩
  · exact RowF.congr (RowF.set h.set (k / 64) _) fun i hi => by
      by_cases e : i = k / 64
      · subst e; rw [if_pos rfl]; rfl
      · simp only [if_neg e]
        rw [show put p k = (fun j => j == k || p j) from rfl, wrd_other _ _ _ e]
  · simp [Value.ownBlock] at hb'
    have : b = w.heap.size := e
    omega
  · have : i = w.heap.size := e
    omega

theorem Wk.drewN {y : Lay} {w : World} {S p : Nat → Bool} {stk : List Nat} {sv : Value} {wr : World} (h : Wk y w S p stk sv wr) (q : Nat) : Wk y w S p stk sv (wr.drewN q) :=
  ⟨RowF.drewN h.set q, h.seen.drewN q, ownsRow_of_block h.own fun _ _ => rfl, h.shape, h.kept.drewN q, h.size⟩
end Go.Proofs.Ybulkexnyi
