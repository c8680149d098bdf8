/-
  WHAT THE LAW HAS LAID AFTER k SETS: the stands, the slices 'stands', 'hs', 'setWant'.
-/
import Derived.Test.YbulkexnvqInp
namespace Go.Proofs.Ybulkexnvq
open Go Go.RowKit

def dOf (I : Inp) (st kb : Nat → Nat) (bb bc : Nat → Nat → Nat) : SetsD :=
  { m := I.m, kn := I.kn, lo := fun k => clampN (I.Lo k) (I.kn k), hi := fun k => clampN (I.Hi k) (I.kn k), S := I.S, st := st, kb := kb, bb := bb, bc := bc }

def hsOne (d : SetsD) (x : Nat) : List Value := [.iface 36 (.pointer (some ⟨d.st x, 0, none⟩)), .int .i64 (d.lo x), .int .i64 (d.hi x)]
def hsCells (d : SetsD) : Nat → List Value
  | 0 => []
  | k + 1 => hsCells d k ++ hsOne d k
def stCells (d : SetsD) : Nat → List Value
  | 0 => []
  | k + 1 => stCells d k ++ [.pointer (some ⟨d.st k, 0, none⟩)]

/-- The blocks of the first k stands. -/
def Ud (d : SetsD) (k b : Nat) : Prop := ∃ x, x < k ∧ (b = d.st x ∨ ∃ i, i < d.kn x ∧ (b = d.kb x ∨ b = d.bb x i))

theorem StandsAt.kept' {d : SetsD} {B B' k : Nat} {X : Nat → Prop} {w w' : World} (h : StandsAt d B k w) (kp : Kept X w w') (hX : ∀ b, Ud d k b → ¬ X b) (hB : B ≤ B') : StandsAt d B' k w' :=
  ⟨fun x hx => ⟨Nat.lt_of_lt_of_le (h.st x hx).1 hB, kp.cell (h.st x hx).2 (hX _ ⟨x, hx, .inl rfl⟩)⟩,
   fun x hx i hi => ⟨Nat.lt_of_lt_of_le (h.kb x hx i hi).1 hB, kp.cell (h.kb x hx i hi).2 (hX _ ⟨x, hx, .inr ⟨i, hi, .inl rfl⟩⟩)⟩,
   fun x hx i hi => ⟨Nat.lt_of_lt_of_le (h.bb x hx i hi).1 hB, (h.bb x hx i hi).2.kept kp (hX _ ⟨x, hx, .inr ⟨i, hi, .inr rfl⟩⟩)⟩⟩

theorem StandsAt.lt {d : SetsD} {B k b : Nat} {w : World} (h : StandsAt d B k w) (hb : Ud d k b) : b < B := by
  obtain ⟨x, hx, rfl | ⟨i, hi, rfl | rfl⟩⟩ := hb
  · exact (h.st x hx).1
  · exact (h.kb x hx i hi).1
  · exact (h.bb x hx i hi).1

/-- Rows of the call's own, apart from the stands and from one another. -/
structure Built (d : SetsD) (ks k15 k14 : Nat) (w wr : World) (v14 v15 v16 : Value) (sw : List ByteArray) : Prop where
  stands : StandsAt d wr.heap.size ks wr
  o15 : wr.ownsRow w.heap.size 36 1 v15 k15 (stCells d k15)
  o14 : wr.ownsRow w.heap.size 42 3 v14 k14 (hsCells d k14)
  o16 : wr.ownsRow w.heap.size 9 1 v16 sw.length (sw.map Value.string)
  s15 : ∀ b, Ud d ks b → v15.ownBlock ≠ some b
  s14 : ∀ b, Ud d ks b → v14.ownBlock ≠ some b
  s16 : ∀ b, Ud d ks b → v16.ownBlock ≠ some b
  d45 : ∀ g, v14.ownBlock = some g → v15.ownBlock ≠ some g
  d46 : ∀ g, v14.ownBlock = some g → v16.ownBlock ≠ some g
  d56 : ∀ g, v15.ownBlock = some g → v16.ownBlock ≠ some g
  kept : Kept (fun _ => False) w wr

theorem ownsRow_keep {w w' : World} {base : Nat} {e : TypeId} {size : Nat} {v : Value} {n : Nat} {xs : List Value} {X : Nat → Prop} (h : w.ownsRow base e size v n xs) (k : Kept X w w') (hX : ∀ g, v.ownBlock = some g → ¬ X g) : w'.ownsRow base e size v n xs := by
  refine ⟨h.1, ?_⟩
  rcases h.2 with h2 | ⟨g, cap, cur, rfl, hb, hc, r⟩
  · exact .inl h2
  · exact .inr ⟨g, cap, cur, rfl, hb, (k.block g (Array.getElem?_eq_some_iff.1 hc).1 (hX g rfl)).trans hc, r⟩

theorem ownsRow_in {w : World} {base : Nat} {e : TypeId} {size : Nat} {v : Value} {n : Nat} {xs : List Value} (h : w.ownsRow base e size v n xs) {g : Nat} (hg : v.ownBlock = some g) : base ≤ g ∧ g < w.heap.size := by
  rcases h.2 with ⟨rfl, _⟩ | ⟨g', cap, cur, rfl, hb, hc, _⟩
  · cases hg
  · simp [Value.ownBlock] at hg
    subst hg
    exact ⟨hb, (Array.getElem?_eq_some_iff.1 hc).1⟩

section
variable {d : SetsD} {ks k15 k14 : Nat} {w wr w2 : World} {v14 v15 v16 : Value} {sw : List ByteArray}

theorem Built.start (d : SetsD) (w : World) : Built d 0 0 0 w w (.slice none 0 0) (.slice none 0 0) (.slice none 0 0) [] := by
  refine ⟨⟨fun x hx => by omega, fun x hx => by omega, fun x hx => by omega⟩, World.ownsRow_nil _ _ _ _, World.ownsRow_nil _ _ _ _, World.ownsRow_nil _ _ _ _, ?_, ?_, ?_, ?_, ?_, ?_, Kept.refl _ _⟩ <;> intro b _ <;> simp [Value.ownBlock]

theorem Built.step (h : Built d ks k15 k14 w wr v14 v15 v16 sw) (k : Kept (fun _ => False) wr w2) : Built d ks k15 k14 w w2 v14 v15 v16 sw :=
  ⟨h.stands.kept' k (fun _ _ h => h) k.size, ownsRow_keep h.o15 k (fun _ _ h => h), ownsRow_keep h.o14 k (fun _ _ h => h), ownsRow_keep h.o16 k (fun _ _ h => h), h.s15, h.s14, h.s16, h.d45, h.d46, h.d56, h.kept.trans k⟩

/-- Another text of the same stands. -/
theorem Built.congr {I : Inp} {st st' kb kb' : Nat → Nat} {bb bb' bc bc' : Nat → Nat → Nat} {k : Nat} (h : Built (dOf I st kb bb bc) k k k w wr v14 v15 v16 sw) (e1 : ∀ x, x < k → st' x = st x) (e2 : ∀ x, x < k → kb' x = kb x) (e3 : ∀ x, x < k → bb' x = bb x) (e4 : ∀ x, x < k → bc' x = bc x) :
    Built (dOf I st' kb' bb' bc') k k k w wr v14 v15 v16 sw := by
  have hst : ∀ j, j ≤ k → stCells (dOf I st' kb' bb' bc') j = stCells (dOf I st kb bb bc) j := fun j => by
    induction j with
    | zero => intro _; rfl
    | succ j ih => intro hj; simp only [stCells]; rw [ih (by omega)]; show _ ++ [Value.pointer (some ⟨st' j, 0, none⟩)] = _ ++ [Value.pointer (some ⟨st j, 0, none⟩)]; rw [e1 j (by omega)]
  have hhs : ∀ j, j ≤ k → hsCells (dOf I st' kb' bb' bc') j = hsCells (dOf I st kb bb bc) j := fun j => by
    induction j with
    | zero => intro _; rfl
    | succ j ih => intro hj; simp only [hsCells]; rw [ih (by omega)]; show _ ++ [Value.iface 36 (.pointer (some ⟨st' j, 0, none⟩)), _, _] = _ ++ [Value.iface 36 (.pointer (some ⟨st j, 0, none⟩)), _, _]; rw [e1 j (by omega)]; rfl
  have hU : ∀ b, Ud (dOf I st' kb' bb' bc') k b → Ud (dOf I st kb bb bc) k b := fun b => by
    rintro ⟨x, hx, hb⟩
    refine ⟨x, hx, ?_⟩
    rcases hb with hb | ⟨i, hi, hb⟩
    · exact .inl (hb.trans (e1 x hx))
    · refine .inr ⟨i, hi, ?_⟩
      rcases hb with hb | hb
      · exact .inl (hb.trans (e2 x hx))
      · exact .inr (hb.trans (congrFun (e3 x hx) i))
  refine ⟨⟨fun x hx => ?_, fun x hx i hi => ?_, fun x hx i hi => ?_⟩, by rw [hst k (Nat.le_refl _)]; exact h.o15, by rw [hhs k (Nat.le_refl _)]; exact h.o14, h.o16, fun b hb => h.s15 b (hU b hb), fun b hb => h.s14 b (hU b hb), fun b hb => h.s16 b (hU b hb), h.d45, h.d46, h.d56, h.kept⟩
  · have := h.stands.st x hx
    simp only [dOf] at this ⊢
    rw [e1 x hx, e2 x hx]
    exact this
  · have := h.stands.kb x hx i hi
    simp only [dOf] at this ⊢
    rw [e2 x hx, e3 x hx, e4 x hx]
    exact this
  · have := h.stands.bb x hx i hi
    simp only [dOf] at this ⊢
    rw [e3 x hx]
    exact this

/-- One stand more: its blocks are none of the rows'. -/
theorem Built.stand {k : Nat} (h : Built d k k15 k14 w wr v14 v15 v16 sw) (h1 : d.st k < wr.heap.size ∧ wr.cell? ⟨d.st k, 0, none⟩ = some (.slice (some ⟨d.kb k, 0, none⟩) (d.kn k) (d.kn k)))
    (h2 : ∀ i, i < d.kn k → d.kb k < wr.heap.size ∧ wr.cell? ⟨d.kb k, i, none⟩ = some (.slice (some ⟨d.bb k i, 0, none⟩) (d.S k i).size (d.bc k i)))
    (h3 : ∀ i, i < d.kn k → d.bb k i < wr.heap.size ∧ BytesAt wr (d.bb k i) (d.S k i))
    (hn : ∀ b, (b = d.st k ∨ ∃ i, i < d.kn k ∧ (b = d.kb k ∨ b = d.bb k i)) → v15.ownBlock ≠ some b ∧ v14.ownBlock ≠ some b ∧ v16.ownBlock ≠ some b) : Built d (k + 1) k15 k14 w wr v14 v15 v16 sw := by
  have cs : ∀ {p : Nat → Prop}, (∀ x, x < k → p x) → p k → ∀ x, x < k + 1 → p x := fun {p} ha hb x hx => by
    by_cases e : x = k
    · subst e; exact hb
    · exact ha x (by omega)
  have hU : ∀ b, Ud d (k + 1) b → Ud d k b ∨ (b = d.st k ∨ ∃ i, i < d.kn k ∧ (b = d.kb k ∨ b = d.bb k i)) := fun b => by
    rintro ⟨x, hx, hb⟩
    by_cases e : x = k
    · subst e; exact .inr hb
    · exact .inl ⟨x, by omega, hb⟩
  exact ⟨⟨cs h.stands.st h1, cs h.stands.kb h2, cs h.stands.bb h3⟩, h.o15, h.o14, h.o16, fun b hb => (hU b hb).elim (h.s15 b) fun q => (hn b q).1, fun b hb => (hU b hb).elim (h.s14 b) fun q => (hn b q).2.1, fun b hb => (hU b hb).elim (h.s16 b) fun q => (hn b q).2.2, h.d45, h.d46, h.d56, h.kept⟩

theorem Built.app15 {g cap : Nat} (h : Built d ks k15 k14 w wr v14 v15 v16 sw) (ho : w2.ownsRow w.heap.size 36 1 (.slice (some ⟨g, 0, none⟩) (k15 + 1) cap) (k15 + 1) (stCells d k15 ++ [.pointer (some ⟨d.st k15, 0, none⟩)])) (hg : wr.grownBy w2 v15.ownBlock) (hat : v15.ownBlock = some g ∨ g = wr.heap.size) :
    Built d ks (k15 + 1) k14 w w2 v14 (.slice (some ⟨g, 0, none⟩) (k15 + 1) cap) v16 sw := by
  have k := Kept.of_grown hg
  refine ⟨h.stands.kept' k h.s15 k.size, ho, ownsRow_keep h.o14 k (fun g' e => h.d45 g' e), ownsRow_keep h.o16 k (fun g' e e' => h.d56 g' e' e), ?_, h.s14, h.s16, ?_, h.d46, ?_, h.kept.grown hg fun b hb => .inr (ownsRow_in h.o15 hb).1⟩
  · intro b hb e
    simp only [Value.ownBlock, Option.some.injEq] at e
    subst e
    rcases hat with q | q
    · exact h.s15 _ hb q
    · have := h.stands.lt hb; omega
  · intro g' e e'
    simp only [Value.ownBlock, Option.some.injEq] at e'
    subst e'
    rcases hat with q | q
    · exact h.d45 _ e q
    · have := (ownsRow_in h.o14 e).2; omega
  · intro g' e e'
    simp only [Value.ownBlock, Option.some.injEq] at e
    subst e
    rcases hat with q | q
    · exact h.d56 _ q e'
    · have := (ownsRow_in h.o16 e').2; omega

theorem Built.app14 {g cap : Nat} (h : Built d ks k15 k14 w wr v14 v15 v16 sw) (ho : w2.ownsRow w.heap.size 42 3 (.slice (some ⟨g, 0, none⟩) (k14 + 1) cap) (k14 + 1) (hsCells d k14 ++ hsOne d k14)) (hg : wr.grownBy w2 v14.ownBlock) (hat : v14.ownBlock = some g ∨ g = wr.heap.size) :
    Built d ks k15 (k14 + 1) w w2 (.slice (some ⟨g, 0, none⟩) (k14 + 1) cap) v15 v16 sw := by
  have k := Kept.of_grown hg
  refine ⟨h.stands.kept' k h.s14 k.size, ownsRow_keep h.o15 k (fun g' e e' => h.d45 g' e' e), ho, ownsRow_keep h.o16 k (fun g' e e' => h.d46 g' e' e), h.s15, ?_, h.s16, ?_, ?_, h.d56, h.kept.grown hg fun b hb => .inr (ownsRow_in h.o14 hb).1⟩
  · intro b hb e
    simp only [Value.ownBlock, Option.some.injEq] at e
    subst e
    rcases hat with q | q
    · exact h.s14 _ hb q
    · have := h.stands.lt hb; omega
  · intro g' e e'
    simp only [Value.ownBlock, Option.some.injEq] at e
    subst e
    rcases hat with q | q
    · exact h.d45 _ q e'
    · have := (ownsRow_in h.o15 e').2; omega
  · intro g' e e'
    simp only [Value.ownBlock, Option.some.injEq] at e
    subst e
    rcases hat with q | q
    · exact h.d46 _ q e'
    · have := (ownsRow_in h.o16 e').2; omega

theorem Built.app16 {g cap : Nat} {s : ByteArray} (h : Built d ks k15 k14 w wr v14 v15 v16 sw) (ho : w2.ownsRow w.heap.size 9 1 (.slice (some ⟨g, 0, none⟩) (sw.length + 1) cap) (sw.length + 1) (sw.map Value.string ++ [.string s])) (hg : wr.grownBy w2 v16.ownBlock) (hat : v16.ownBlock = some g ∨ g = wr.heap.size) :
    Built d ks k15 k14 w w2 v14 v15 (.slice (some ⟨g, 0, none⟩) (sw.length + 1) cap) (sw ++ [s]) := by
  have k := Kept.of_grown hg
  refine ⟨h.stands.kept' k h.s16 k.size, ownsRow_keep h.o15 k (fun g' e e' => h.d56 g' e e'), ownsRow_keep h.o14 k (fun g' e e' => h.d46 g' e e'), by simpa using ho, h.s15, h.s14, ?_, h.d45, ?_, ?_, h.kept.grown hg fun b hb => .inr (ownsRow_in h.o16 hb).1⟩
  · intro b hb e
    simp only [Value.ownBlock, Option.some.injEq] at e
    subst e
    rcases hat with q | q
    · exact h.s16 _ hb q
    · have := h.stands.lt hb; omega
  · intro g' e e'
    simp only [Value.ownBlock, Option.some.injEq] at e'
    subst e'
    rcases hat with q | q
    · exact h.d46 _ e q
    · have := (ownsRow_in h.o14 e).2; omega
  · intro g' e e'
    simp only [Value.ownBlock, Option.some.injEq] at e'
    subst e'
    rcases hat with q | q
    · exact h.d56 _ e q
    · have := (ownsRow_in h.o15 e).2; omega
end
end Go.Proofs.Ybulkexnvq
