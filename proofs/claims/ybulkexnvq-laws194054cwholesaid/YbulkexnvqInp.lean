/-
  THE INPUT IN MEMORY.
-/
import Derived.Test.YbulkexnvqFrame
namespace Go.Proofs.Ybulkexnvq
open Go Go.RowKit

structure Inp where
  n : Nat
  ha : Option Addr
  hc : Nat
  K : Nat → ByteArray
  M : Nat → Nat
  m : Nat
  sa : Option Addr
  sc : Nat
  kn : Nat → Nat
  ka : Nat → Option Addr
  kc : Nat → Nat
  Lo : Nat → Int
  Hi : Nat → Int
  S : Nat → Nat → ByteArray
  mode : Nat

structure InAt (I : Inp) (w : World) : Prop where
  held : ∀ k, k < I.n → ∃ b off, I.ha = some ⟨b, off, none⟩ ∧ w.cell? ⟨b, off + k * 2, none⟩ = some (.string (I.K k)) ∧ w.cell? ⟨b, off + k * 2 + 1, none⟩ = some (.int .u8 (I.M k))
  sets : ∀ k, k < I.m → ∃ b off, I.sa = some ⟨b, off, none⟩ ∧ w.cell? ⟨b, off + k * 3, none⟩ = some (.slice (I.ka k) (I.kn k) (I.kc k)) ∧ w.cell? ⟨b, off + k * 3 + 1, none⟩ = some (.int .i64 (I.Lo k)) ∧ w.cell? ⟨b, off + k * 3 + 2, none⟩ = some (.int .i64 (I.Hi k))
  keys : ∀ k, k < I.m → ∀ i, i < I.kn k → ∃ b off, I.ka k = some ⟨b, off, none⟩ ∧ w.cell? ⟨b, off + i, none⟩ = some (.string (I.S k i))

theorem InAt.below {I : Inp} {w w' : World} (h : InAt I w) (k : Below w.heap.size w w') : InAt I w' := by
  have go : ∀ {a : Addr} {v : Value}, w.cell? a = some v → w'.cell? a = some v := fun {a v} hc => by
    rw [← hc]
    exact World.cell?_of_block (k.block a.block (World.block_lt_of_cell? _ _ hc))
  refine ⟨fun x hx => ?_, fun x hx => ?_, fun x hx i hi => ?_⟩
  · obtain ⟨b, off, h1, h2, h3⟩ := h.held x hx
    exact ⟨b, off, h1, go h2, go h3⟩
  · obtain ⟨b, off, h1, h2, h3, h4⟩ := h.sets x hx
    exact ⟨b, off, h1, go h2, go h3, go h4⟩
  · obtain ⟨b, off, h1, h2⟩ := h.keys x hx i hi
    exact ⟨b, off, h1, go h2⟩

/-- What a caller keeps while nothing old is turned. -/
theorem Below.kept' {B : Nat} {w w1 w2 : World} {X : Nat → Prop} (h : Below B w w1) (k : Kept X w1 w2) (hX : ∀ b, b < B → ¬ X b) (hB : B ≤ w.heap.size) : Below B w w2 :=
  ⟨k.os.trans h.os, k.tape.trans h.tape, k.output.trans h.output, Nat.le_trans h.size k.size, fun b hb => (k.block b (Nat.lt_of_lt_of_le hb (Nat.le_trans hB h.size)) (hX b hb)).trans (h.block b hb)⟩

/-- An activation of the law's, its frame whole. -/
structure Fr (a : Act) : Prop where
  size : a.tmps.size = 419
  defers : a.defers = []

theorem Fr.open' {a : Act} (h : Fr a) : a = ⟨⟨listF (cell a)⟩, []⟩ := frame_open a h.size h.defers
end Go.Proofs.Ybulkexnvq
