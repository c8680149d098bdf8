/-
  MEMORY OF THE CALL's OWN, BY ROWS: 'RowF w b t n f': block b is a row of n cells of type t, cell i holding f i, none of it frozen.
-/
import Derived.WalkKit
import Derived.WalkSpells
import Derived.Deep.QuietTactic
import Derived.BigQuiet
namespace Go.Proofs.Ybulkexnxu
open Go Go.RowKit

def RowF (w : World) (b : Nat) (t : TypeId) (n : Nat) (f : Nat → Value) : Prop := w.heap[b]? = some (.cells (((List.range n).map f).toArray) t (0, 0))

section
variable {w w' : World} {b : Nat} {t : TypeId} {n : Nat} {f g : Nat → Value}

theorem RowF.lt (h : RowF w b t n f) : b < w.heap.size := (Array.getElem?_eq_some_iff.1 h).1

theorem RowF.cell (h : RowF w b t n f) {i : Nat} (hi : i < n) : w.cell? ⟨b, i, none⟩ = some (f i) := by
  unfold RowF at h
  simp [World.cell?, h, hi]

theorem RowF.frozen (h : RowF w b t n f) (i : Nat) : w.frozen? ⟨b, i, none⟩ = false := by
  unfold RowF at h
  simp [World.frozen?, h]

theorem RowF.congr (h : RowF w b t n f) (e : ∀ i, i < n → f i = g i) : RowF w b t n g := by
  unfold RowF at h ⊢
  have e' : (List.range n).map f = (List.range n).map g := List.map_congr_left fun i hi => e i (List.mem_range.1 hi)
  rw [h, e']

theorem RowF.of_block (h : RowF w b t n f) (e : w'.heap[b]? = w.heap[b]?) : RowF w' b t n f := e.trans h

theorem RowF.below {B : Nat} (h : RowF w b t n f) (hb : Below B w w') (hB : b < B) : RowF w' b t n f := h.of_block (hb.block b hB)

theorem RowF.alloc (h : RowF w b t n f) (o : Obj) : RowF (w.alloc o) b t n f := h.of_block (Below.heap_alloc _ _ _ h.lt)

theorem RowF.set_other (h : RowF w b t n f) {p : Addr} (hp : b ≠ p.block) (v : Value) : RowF (w.setCell p v) b t n f := h.of_block (Below.heap_setCell _ _ _ _ hp)

theorem RowF.set (h : RowF w b t n f) (i : Nat) (v : Value) : RowF (w.setCell ⟨b, i, none⟩ v) b t n (fun j => if j = i then v else f j) := by
  unfold RowF at h ⊢
  have e : (w.setCell ⟨b, i, none⟩ v).heap[b]? = (w.heap[b]?).map (fun o => match o with | .cells c elem frozen => .cells (c.setIfInBounds i v) elem frozen | o => o) := by
    simp only [World.setCell, Array.getElem?_modify, if_true]
    cases w.heap[b]? with
    | none => rfl
    | some o => cases o <;> rfl
  rw [e, h]
  simp only [Option.map_some, Option.some.injEq, Obj.cells.injEq, and_true]
  apply Array.toList_inj.1
  simp only [Array.toList_setIfInBounds]
  apply List.ext_getElem (by simp)
  intro j h1 h2
  simp [List.getElem_set, eq_comm]

theorem RowF.alloc_new (w : World) (t : TypeId) (c : Array Value) (n : Nat) (f : Nat → Value) (e : c.toList = (List.range n).map f) : RowF (w.alloc (.cells c t)) w.heap.size t n f := by
  unfold RowF
  rw [← e]
  exact (MapKept.heap_alloc w _).1

theorem RowF.drewN (h : RowF w b t n f) (k : Nat) : RowF (w.drewN k) b t n f := by
  induction k with
  | zero => exact h
  | succ k ih => exact ih
end
end Go.Proofs.Ybulkexnxu
