/-
  WHAT THE JOINING WANTS: shapes of rows; what Keys gave, block by block.
-/
import Derived.Test.YbulkexnvqSeg17
import Derived.Test.YbulkexnvqSeg13
import Derived.Test.YbulkexnvqSeg18
import Derived.Test.YbulkexnvqSeg20
import Derived.Test.YbulkexnvqSegG
import Derived.Test.YbulkexnvqItems2
namespace Go.Proofs.Ybulkexnvq
open Go Go.RowKit Go.Maps

theorem ownsRow_shape {w : World} {base : Nat} {e : TypeId} {size : Nat} {v : Value} {n : Nat} {xs : List Value} (h : w.ownsRow base e size v n xs) :
    ∃ o c, v = .slice o n c ∧ (0 < n → ∃ g, o = some ⟨g, 0, none⟩ ∧ base ≤ g ∧ g < w.heap.size ∧ ∀ (j : Nat) (u : Value), xs[j]? = some u → w.cell? ⟨g, j, none⟩ = some u) := by
  rcases h.2 with ⟨rfl, rfl⟩ | ⟨g, cap, cur, rfl, hb, hc, h1, h2, h3, h4⟩
  · exact ⟨none, 0, rfl, fun h => by omega⟩
  · refine ⟨_, cap, rfl, fun _ => ⟨g, rfl, hb, (Array.getElem?_eq_some_iff.1 hc).1, fun j u hj => ?_⟩⟩
    have hl : j < n * size := by
      have := (List.getElem?_eq_some_iff.1 hj).1
      rw [h.1] at this
      exact this
    have e1 : w.cell? ⟨g, j, none⟩ = cur[j]? := by simp [World.cell?, hc]
    have e2 : cur[j]? = (cur.toList.take (n * size))[j]? := by rw [List.getElem?_take_of_lt hl]; simp
    rw [e1, e2, h4, hj]

theorem got_at {X : Nat → Prop} {w wr : World} {v : Value} {gl : List ByteArray} {gv : List Value} (h : Got X w wr v gl gv) (hne : gl ≠ []) :
    ∃ gblk gcap gb gc, v = .slice (some ⟨gblk, 0, none⟩) gl.length gcap ∧ GotAt gl gb gc gblk w.heap.size wr.heap.size wr := by
  obtain ⟨o, c, hv, hs⟩ := ownsRow_shape h.own
  obtain ⟨g, rfl, hg1, hg2, hcell⟩ := hs (List.length_pos_iff.2 hne)
  have hob : v.ownBlock = some g := by rw [hv]; rfl
  have ch : ∀ j : Nat, ∃ p : Nat × Nat, ∀ s : ByteArray, gl[j]? = some s → gv[j]? = some (.slice (some ⟨p.1, 0, none⟩) s.size p.2) ∧ w.heap.size ≤ p.1 ∧ p.1 < wr.heap.size ∧ v.ownBlock ≠ some p.1 ∧ BytesAt wr p.1 s := fun j => by
    cases hj : gl[j]? with
    | none => exact ⟨(0, 0), fun s hs => by cases hs⟩
    | some s =>
      obtain ⟨b, c', h1, h2⟩ := h.each j s hj
      exact ⟨(b, c'), fun s' hs' => by cases hs'; exact ⟨h1, h2⟩⟩
  refine ⟨g, c, fun j => (Classical.choose (ch j)).1, fun j => (Classical.choose (ch j)).2, hv, ⟨fun j s hj => ?_, hg1, hg2⟩⟩
  obtain ⟨h1, h2, h3, h4, h5⟩ := Classical.choose_spec (ch j) s hj
  exact ⟨hcell j _ h1, h5, h2, h3, fun e => h4 (hob.trans (congrArg some e.symm))⟩

theorem stCells_get (d : SetsD) : ∀ k x, x < k → (stCells d k)[x]? = some (.pointer (some ⟨d.st x, 0, none⟩))
  | 0, x, h => by omega
  | k + 1, x, h => by
    have hl : ∀ j, (stCells d j).length = j := fun j => by induction j with
      | zero => rfl
      | succ j ih => simp [stCells, ih]
    simp only [stCells]
    by_cases e : x = k
    · subst e
      rw [List.getElem?_append_right (by rw [hl]; exact Nat.le_refl _), hl]
      simp
    · rw [List.getElem?_append_left (by rw [hl]; omega)]
      exact stCells_get d k x (by omega)

theorem hsCells_len (d : SetsD) : ∀ k, (hsCells d k).length = k * 3
  | 0 => rfl
  | k + 1 => by simp only [hsCells, List.length_append, hsCells_len d k, hsOne, List.length_cons, List.length_nil]; omega

theorem hsCells_get (d : SetsD) : ∀ k x, x < k → ∀ r, r < 3 → (hsCells d k)[x * 3 + r]? = (hsOne d x)[r]?
  | 0, x, h => by omega
  | k + 1, x, h => fun r hr => by
    simp only [hsCells]
    by_cases e : x = k
    · subst e
      rw [List.getElem?_append_right (by rw [hsCells_len]; omega), hsCells_len, Nat.add_sub_cancel_left]
    · rw [List.getElem?_append_left (by rw [hsCells_len]; omega)]
      exact hsCells_get d k x (by omega) r hr
end Go.Proofs.Ybulkexnvq
