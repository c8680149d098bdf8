/-
  ROWS OF STRINGS: sorted, compared.
-/
import Derived.Test.YbulkexnvqInp
import Derived.Sort.OwnSorted
namespace Go.Proofs.Ybulkexnvq
open Go Go.RowKit Go.Sort

/-- Block g begins with the strings xs. -/
def StrRow (w : World) (g : Nat) (xs : List ByteArray) : Prop := ∃ cur, w.heap[g]? = some (.cells cur 9 (0, 0)) ∧ xs.length ≤ cur.size ∧ cur.toList.take xs.length = xs.map Value.string

noncomputable def sorted (xs : List ByteArray) : List ByteArray := ((xs.map fun s => s.data.toList).mergeSort leB).map fun l => ⟨l.toArray⟩

theorem sorted_len (xs : List ByteArray) : (sorted xs).length = xs.length := by simp [sorted, List.length_mergeSort]

theorem sorted_perm {xs ys : List ByteArray} (h : xs.Perm ys) : sorted xs = sorted ys := by
  unfold sorted
  rw [mergeSort_of_perm (h.map _)]

section
variable {w w' : World} {g : Nat} {xs ys : List ByteArray}

theorem StrRow.lt (h : StrRow w g xs) : g < w.heap.size := by
  obtain ⟨cur, h1, _⟩ := h
  exact (Array.getElem?_eq_some_iff.1 h1).1

theorem StrRow.of_block (h : StrRow w g xs) (e : w'.heap[g]? = w.heap[g]?) : StrRow w' g xs := by
  obtain ⟨cur, h1, h2⟩ := h
  exact ⟨cur, e.trans h1, h2⟩

theorem StrRow.kept {X : Nat → Prop} (h : StrRow w g xs) (k : Kept X w w') (hx : ¬ X g) : StrRow w' g xs := h.of_block (k.block g h.lt hx)

theorem StrRow.cell (h : StrRow w g xs) {j : Nat} {s : ByteArray} (hj : xs[j]? = some s) : w.cell? ⟨g, j, none⟩ = some (.string s) := by
  obtain ⟨cur, h1, h2, h3⟩ := h
  have hl : j < xs.length := (List.getElem?_eq_some_iff.1 hj).1
  have e1 : w.cell? ⟨g, j, none⟩ = cur[j]? := by simp [World.cell?, h1]
  have e2 : cur[j]? = (cur.toList.take xs.length)[j]? := by rw [List.getElem?_take_of_lt hl]; simp
  rw [e1, e2, h3, List.getElem?_map, hj]
  rfl

theorem StrRow.of_row {n : Nat} {f : Nat → ByteArray} (h : RowF w g 9 n (fun i => .string (f i))) : StrRow w g ((List.range n).map f) := by
  refine ⟨_, h, by simp, ?_⟩
  simp [List.take_of_length_le]

theorem StrRow.of_own {base n : Nat} {v : Value} (h : w.ownsRow base 9 1 v n (xs.map Value.string)) (hn : n = xs.length) : (v = .slice none 0 0 ∧ xs = []) ∨ ∃ g cap, v = .slice (some ⟨g, 0, none⟩) xs.length cap ∧ base ≤ g ∧ StrRow w g xs := by
  subst hn
  rcases h.2 with ⟨h1, h2⟩ | ⟨g, cap, cur, rfl, hb, hc, h1, h2, h3, h4⟩
  · exact .inl ⟨h1, List.length_eq_zero_iff.1 h2⟩
  · exact .inr ⟨g, cap, rfl, hb, cur, hc, by omega, by simpa using h4⟩

theorem map_enc (xs : List ByteArray) : (xs.map fun s => s.data.toList).map encStr = xs.map Value.string := by
  rw [List.map_map]
  apply List.map_congr_left
  intro s _
  simp [encStr]

theorem map_dec (l : List (List UInt8)) : l.map encStr = (l.map fun x => (⟨x.toArray⟩ : ByteArray)).map Value.string := by
  rw [List.map_map]
  rfl

theorem sort_row (g cap : Nat) (xs : List ByteArray) (w : World) (h : StrRow w g xs) (hl : xs.length < 4611686018427387904) :
    Calls Yba.prog 6 #[.slice (some ⟨g, 0, none⟩) xs.length cap] w fun e w' => e = .returned (.tuple #[]) ∧ StrRow w' g (sorted xs) ∧ Kept (· = g) w w' := by
  have hlt := h.lt
  obtain ⟨cur, h1, h2, h3⟩ := h
  have hH : Holds encStr w g 0 (xs.map fun s => s.data.toList).toArray := holds_of_block h1 (by rw [List.length_map, h3, map_enc])
  have := Yba.slices_Sort_string g 0 cap (xs.map fun s => s.data.toList) w hH hlt (by rw [List.length_map]; exact hl)
  rw [List.length_map] at this
  refine this.mono ?_
  rintro e w' ⟨rfl, n, os, rfl⟩
  refine ⟨rfl, ⟨_, heap_sorted _ h1, ?_, ?_⟩, ?_⟩
  · rw [sorted_len]
    simpa [putCells] using h2
  · have hlen : ((xs.map fun s => s.data.toList).mergeSort leB).length = xs.length := by simp [List.length_mergeSort]
    have := take_putCells cur ((xs.map fun s => s.data.toList).mergeSort leB) (by rw [hlen]; exact h2)
    rw [sorted_len, ← hlen, this, map_dec]
    rfl
  · have hg := grownBy_sorted (w := w) (g := g) (n := n) (os := os) (((xs.map fun s => s.data.toList).mergeSort leB).toArray)
    exact (Kept.of_grown hg).weaken fun k _ hk => by simpa using hk.symm

theorem equal_rows (g1 g2 c d : Nat) (xs : List ByteArray) (w : World) (h1 : StrRow w g1 xs) (h2 : StrRow w g2 xs) (hl : xs.length ≤ 9223372036854775807) :
    Calls Yba.prog 7 #[.slice (some ⟨g1, 0, none⟩) xs.length c, .slice (some ⟨g2, 0, none⟩) xs.length d] w fun e w' => e = .returned (.bool true) ∧ ∃ q, w' = w.drewN q := by
  have get : ∀ {g : Nat}, StrRow w g xs → ∀ j, j < xs.length → w.cell? ⟨g, 0 + j, none⟩ = some (.string (xs.getD j ByteArray.empty)) := fun {g} h j hj => by
    rw [Nat.zero_add]
    exact h.cell (by simp [List.getD, List.getElem?_eq_getElem hj])
  refine (Yba.slices_Equal_string g1 0 xs.length c g2 0 xs.length d xs xs w (Nat.le_refl _) (Nat.le_refl _) hl hl (get h1) (get h2)).mono ?_
  rintro e w' ⟨rfl, q, rfl⟩
  exact ⟨by simp, q, rfl⟩
end
end Go.Proofs.Ybulkexnvq
