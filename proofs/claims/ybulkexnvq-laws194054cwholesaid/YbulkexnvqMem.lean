/-
  MEMORY OF THE CALL's OWN, BY ROWS: 'RowF w b t n f': block b is a row of n cells of type t, cell i holding f i, none of it frozen.
-/
import Derived.WalkKit
import Derived.WalkSpells
import Derived.Deep.QuietTactic
import Derived.BigQuiet
namespace Go.Proofs.Ybulkexnvq
open Go Go.RowKit

def RowF (w : World) (b : Nat) (t : TypeId) (n : Nat) (f : Nat → Value) : Prop := w.heap[b]? = some (.cells (((List.range n).map f).toArray) t (0, 0))

section
variable {w w' : World} {b : Nat} {t : TypeId} {n : Nat} {f g : Nat → Value}

theorem RowF.lt (h : RowF w b t n f) : b < w.heap.size := (Array.getElem?_eq_some_iff.1 h).1

theorem RowF.cell (h : RowF w b t n f) {i : Nat} (hi : i < n) : w.cell? ⟨b, i, none⟩ = some (f i) := by
  unfold RowF at h
  simp [World.cell?, h, hi]

theorem RowF.frozen (h : RowF w b t n f) (i : Nat) : w.frozen? ⟨b, i, none⟩ = false := by
  unfold RowF at h
  simp [World.frozen?, h]

theorem RowF.congr (h : RowF w b t n f) (e : ∀ i, i < n → f i = g i) : RowF w b t n g := by
  unfold RowF at h ⊢
  have e' : (List.range n).map f = (List.range n).map g := List.map_congr_left fun i hi => e i (List.mem_range.1 hi)
  rw [h, e']

theorem RowF.of_block (h : RowF w b t n f) (e : w'.heap[b]? = w.heap[b]?) : RowF w' b t n f := e.trans h

theorem RowF.below {B : Nat} (h : RowF w b t n f) (hb : Below B w w') (hB : b < B) : RowF w' b t n f := h.of_block (hb.block b hB)

theorem RowF.alloc (h : RowF w b t n f) (o : Obj) : RowF (w.alloc o) b t n f := h.of_block (Below.heap_alloc _ _ _ h.lt)

theorem RowF.set_other (h : RowF w b t n f) {p : Addr} (hp : b ≠ p.block) (v : Value) : RowF (w.setCell p v) b t n f := h.of_block (Below.heap_setCell _ _ _ _ hp)

theorem RowF.set (h : RowF w b t n f) (i : Nat) (v : Value) : RowF (w.setCell ⟨b, i, none⟩ v) b t n (fun j => if j = i then v else f j) := by
  unfold RowF at h ⊢
  have e : (w.setCell ⟨b, i, none⟩ v).heap[b]? = (w.heap[b]?).map (fun o => match o with | .cells c elem frozen => .cells (c.setIfInBounds i v) elem frozen | o => o) := by
    simp only [World.setCell, Array.getElem?_modify, if_true]
    cases w.heap[b]? with
    | none => rfl
    | some o => cases o <;> rfl
  rw [e, h]
  simp only [Option.map_some, Option.some.injEq, Obj.cells.injEq, and_true]
  apply Array.toList_inj.1
  simp only [Array.toList_setIfInBounds]
  apply List.ext_getElem (by simp)
  intro j h1 h2
  simp [List.getElem_set, eq_comm]

theorem RowF.alloc_new (w : World) (t : TypeId) (c : Array Value) (n : Nat) (f : Nat → Value) (e : c.toList = (List.range n).map f) : RowF (w.alloc (.cells c t)) w.heap.size t n f := by
  unfold RowF
  rw [← e]
  exact (MapKept.heap_alloc w _).1

theorem RowF.drewN (h : RowF w b t n f) (k : Nat) : RowF (w.drewN k) b t n f := by
  induction k with
  | zero => exact h
  | succ k ih => exact ih
end

/-- NOTHING THAT WAS THERE HAS TURNED, BUT (it may be) THE BLOCKS OF WHICH X HOLDS. -/
structure Kept (X : Nat → Prop) (w w' : World) : Prop where
  os : w'.os = w.os
  tape : w'.tape = w.tape
  output : w'.output = w.output
  size : w.heap.size ≤ w'.heap.size
  block : ∀ k, k < w.heap.size → ¬ X k → w'.heap[k]? = w.heap[k]?

section
variable {X Y : Nat → Prop} {w w' w'' : World}

theorem Kept.refl (X : Nat → Prop) (w : World) : Kept X w w := ⟨rfl, rfl, rfl, Nat.le_refl _, fun _ _ _ => rfl⟩
theorem Kept.trans (h : Kept X w w') (k : Kept X w' w'') : Kept X w w'' :=
  ⟨k.os.trans h.os, k.tape.trans h.tape, k.output.trans h.output, Nat.le_trans h.size k.size, fun i hi hx => (k.block i (Nat.lt_of_lt_of_le hi h.size) hx).trans (h.block i hi hx)⟩
theorem Kept.weaken (h : Kept X w w') (hX : ∀ k, k < w.heap.size → X k → Y k) : Kept Y w w' := ⟨h.os, h.tape, h.output, h.size, fun k hk hy => h.block k hk fun hx => hy (hX k hk hx)⟩
/-- Two steps: what the second may turn is what the first may turn, or new. -/
theorem Kept.then' (h : Kept X w w') (k : Kept Y w' w'') (hY : ∀ i, i < w.heap.size → Y i → X i) : Kept X w w'' :=
  ⟨k.os.trans h.os, k.tape.trans h.tape, k.output.trans h.output, Nat.le_trans h.size k.size, fun i hi hx => (k.block i (Nat.lt_of_lt_of_le hi h.size) fun hy => hx (hY i hi hy)).trans (h.block i hi hx)⟩
theorem Kept.alloc (h : Kept X w w') (o : Obj) : Kept X w (w'.alloc o) :=
  h.trans ⟨rfl, rfl, rfl, by simp, fun k hk _ => Below.heap_alloc _ _ _ hk⟩
theorem Kept.setCell (h : Kept X w w') {p : Addr} (hp : X p.block ∨ w.heap.size ≤ p.block) (u : Value) : Kept X w (w'.setCell p u) := by
  refine ⟨h.os, h.tape, h.output, by simpa [World.setCell] using h.size, fun k hk hx => ?_⟩
  rw [Below.heap_setCell _ _ _ _ (fun e => ?_)]
  · exact h.block k hk hx
  · subst e
    rcases hp with hp | hp
    · exact hx hp
    · omega
theorem Kept.drew (h : Kept X w w') : Kept X w w'.drew := ⟨h.os, h.tape, h.output, h.size, h.block⟩
theorem Kept.drewN (h : Kept X w w') (n : Nat) : Kept X w (w'.drewN n) := ⟨h.os, h.tape, h.output, h.size, h.block⟩
theorem Kept.below {B : Nat} (h : Kept X w w') (hX : ∀ k, k < B → ¬ X k) (hB : B ≤ w.heap.size) : Below B w w' := ⟨h.os, h.tape, h.output, h.size, fun k hk => h.block k (by omega) (hX k hk)⟩
theorem Kept.cell (h : Kept X w w') {a : Addr} {v : Value} (hc : w.cell? a = some v) (hx : ¬ X a.block) : w'.cell? a = some v := by
  rw [← hc]
  exact World.cell?_of_block (h.block a.block (World.block_lt_of_cell? _ _ hc) hx)
theorem RowF.kept {b : Nat} {t : TypeId} {n : Nat} {f : Nat → Value} (h : RowF w b t n f) (k : Kept X w w') (hx : ¬ X b) : RowF w' b t n f := h.of_block (k.block b h.lt hx)
theorem Kept.grown (h : Kept X w w') {row : Option Nat} (hg : w'.grownBy w'' row) (hr : ∀ k, row = some k → X k ∨ w.heap.size ≤ k) : Kept X w w'' :=
  ⟨hg.os.trans h.os, hg.tape.trans h.tape, hg.output.trans h.output, Nat.le_trans h.size hg.size, fun k hk hx => by
    refine (hg.block k (Nat.lt_of_lt_of_le hk h.size) fun e => ?_).trans (h.block k hk hx)
    rcases hr k e.symm with h1 | h1
    · exact hx h1
    · omega⟩
end
end Go.Proofs.Ybulkexnvq
