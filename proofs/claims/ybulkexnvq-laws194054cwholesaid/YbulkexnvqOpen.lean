/-
  THE ARGUMENTS OPENED: the held keys; the sets.
-/
import Derived.Test.YbulkexnvqRows
import Derived.Test.YbulkexnvqLaw
import Derived.ProofKit
import Derived.Deep.SlicePairs
import Derived.SizedLaws
import Derived.SliceStrings
namespace Go.Proofs.Ybulkexnvq
open Go.ChangeShapes Go.WideShapes Go.ChangeAt Go.RowKit Go.Deep

theorem Yba.cells30 : Yba.prog.cellsOf 30 = 2 := by kernel_rfl
theorem Yba.cells9 : Yba.prog.cellsOf 9 = 1 := by kernel_rfl
theorem Yba.cells5 : Yba.prog.cellsOf 5 = 1 := by kernel_rfl
theorem Yba.cells26 : Yba.prog.cellsOf 26 = 3 := by kernel_rfl
theorem Yba.cells24 : Yba.prog.cellsOf 24 = 1 := by kernel_rfl
theorem Yba.cells3 : Yba.prog.cellsOf 3 = 1 := by kernel_rfl
theorem Yba.bytes9 : Yba.prog.bytesOf 9 = 16 := by kernel_rfl
theorem reach_eq : reachBytes = 140737488351232 := rfl

theorem u8_bounds {n : Int} (h : (Lit.int .u8 n).wf = true) : 0 ≤ n ∧ n ≤ 255 := by
  have h1 : IntKind.u8.min = 0 := rfl
  have h2 : IntKind.u8.max = 255 := rfl
  simp only [Lit.wf, Bool.and_eq_true, decide_eq_true_eq, h1, h2] at h
  exact h

theorem weightsAll_mem {H : Type} {P : Program} {e : TypeId} : ∀ {l : List (DataW H)} {d : DataW H}, d ∈ l → ∀ n ∈ d.weights P e, n ∈ DataW.weightsAll P e l
  | d' :: r, d, hd, n, hn => by
    simp only [DataW.weightsAll, List.mem_append]
    rcases List.mem_cons.1 hd with rfl | h
    · exact Or.inl hn
    · exact Or.inr (weightsAll_mem h n hn)

section
variable {H : Type} {enc : TypeId × Value → H} {W : World} {fuel : Nat}

theorem held_open {a0 : Option Addr} {len cap : Nat} {x : DataW H × List MemPlace} (hf : DataW.trod enc Yba.prog W 0 (fun _ => true) true fuel 22 [.slice a0 len cap] = some x) (hw : ∀ n ∈ x.1.weights Yba.prog 22, n ≤ reachBytes) :
    ∃ (K : Nat → ByteArray) (M : Nat → Nat), (∀ k, k < len → ∃ b off, a0 = some ⟨b, off, none⟩ ∧ W.cell? ⟨b, off + k * 2, none⟩ = some (.string (K k)) ∧ W.cell? ⟨b, off + k * 2 + 1, none⟩ = some (.int .u8 (M k)) ∧ M k ≤ 255) ∧ ∀ k, (K k).size ≤ reachBytes := by
  rcases open_slice_pairs Yba.underlying22 Yba.underlying30 Yba.cells30 rfl rfl Yba.cells9 Yba.cells5 hf with ⟨hcs, hx⟩ | ⟨a, len', cap', m, k0, V0, V1, D0, D1, P0, P1, hcs, _, hl, hm, hz, hx, hcell⟩
  · simp at hcs
    exact ⟨fun _ => ByteArray.empty, fun _ => 0, fun k hk => by omega, fun _ => by show ByteArray.empty.size ≤ reachBytes; decide⟩
  · simp at hcs
    obtain ⟨rfl, rfl, rfl⟩ := hcs
    simp only [if_true] at hz
    have each : ∀ k, k < len → ∃ z : ByteArray × Nat, V0 k = .string z.1 ∧ V1 k = .int .u8 z.2 ∧ z.2 ≤ 255 ∧ z.1.size ≤ reachBytes := fun k hk => by
      obtain ⟨_, _, g0, g1⟩ := hcell k (by omega)
      obtain ⟨s, e0, eD, _⟩ := DataW.trod_string Yba.underlying9 g0
      obtain ⟨y, e1, _, w1⟩ := DataW.trod_int Yba.underlying5 g1
      obtain ⟨y0, y1⟩ := u8_bounds w1
      simp only [List.cons.injEq, and_true] at e0 e1
      refine ⟨(s, y.toNat), e0, by rw [e1, Int.toNat_of_nonneg y0], by simp only; omega, ?_⟩
      simp only [Prod.mk.injEq] at eD
      have hmem : DataW.agg [D0 k, D1 k] ∈ (List.range len).map fun i => DataW.agg [D0 i, D1 i] := List.mem_map.2 ⟨k, List.mem_range.2 hk, rfl⟩
      rw [hx] at hw
      have := hw s.data.toList.length (by
        simp only [DataW.weights, Yba.underlying22, List.mem_cons, List.mem_append]
        refine Or.inr (Or.inl (weightsAll_mem hmem _ ?_))
        simp only [DataW.weights, Yba.underlying30]
        rw [eD.1]
        simp [DataW.weightsEach, DataW.weights])
      rw [size_list] at this
      exact this
    obtain ⟨f, hff⟩ := choose_lt each
    refine ⟨fun k => if k < len then (f k).1 else ByteArray.empty, fun k => (f k).2, fun k hk => ?_, fun k => ?_⟩
    · obtain ⟨c0, c1, _, _⟩ := hcell k (by omega)
      obtain ⟨b, off, spot⟩ := a
      have hspot : spot = none := by simpa [Addr.add] using World.cell?_spot (hcell 0 (by omega)).1
      subst hspot
      obtain ⟨e0, e1, b0, _⟩ := hff k hk
      rw [add_plain, e0] at c0
      rw [add_plain, e1] at c1
      simp only [if_pos hk]
      exact ⟨b, off, rfl, c0, by rw [Nat.add_assoc]; exact c1, b0⟩
    · by_cases hk : k < len
      · simp only [if_pos hk]
        exact (hff k hk).2.2.2
      · simp only [if_neg hk]
        decide

/-- One set, as it was read. -/
structure SetQ where
  ka : Option Addr
  kn : Nat
  kc : Nat
  Lo : Int
  Hi : Int
  S : Nat → ByteArray

theorem strs_open {v : Value} {x : DataW H × List MemPlace} (hf : DataW.trod enc Yba.prog W 0 (fun _ => true) true fuel 24 [v] = some x) (hw : ∀ n ∈ x.1.weights Yba.prog 24, n ≤ reachBytes) :
    ∃ (ka : Option Addr) (kn kc : Nat) (S : Nat → ByteArray), v = .slice ka kn kc ∧ kn ≤ reachBytes ∧ (∀ i, i < kn → ∃ b off, ka = some ⟨b, off, none⟩ ∧ W.cell? ⟨b, off + i, none⟩ = some (.string (S i))) ∧ ∀ i, (S i).size ≤ reachBytes := by
  rcases open_strings Yba.underlying24 Yba.underlying9 Yba.cells9 hf with ⟨hcs, hx⟩ | ⟨a, len, cap, ss, hcs, _, hl, hm, hlen, hx, hcell, _⟩
  · simp at hcs
    exact ⟨none, 0, 0, fun _ => ByteArray.empty, hcs, by decide, fun i hi => by omega, fun _ => by show ByteArray.empty.size ≤ reachBytes; decide⟩
  · simp at hcs
    subst hcs
    simp only [if_true] at hlen
    rw [hx] at hw
    have hsz : ∀ s ∈ ss.take len, s.size ≤ reachBytes := fun s hs => by
      have := hw s.data.toList.length (by
        simp only [DataW.weights, Yba.underlying24, List.mem_cons, List.mem_append]
        refine Or.inr (Or.inl (weightsAll_mem (d := .lit (.string s.data.toList)) ?_ _ (by simp [DataW.weights])))
        exact List.mem_map.2 ⟨s, hs, rfl⟩)
      rw [size_list] at this
      exact this
    have hkn : len ≤ reachBytes := by
      have := hw (((strs (H := H) (ss.take len)).length + (strs (H := H) (ss.drop len)).length) * Yba.prog.bytesOf 9) (by simp only [DataW.weights, Yba.underlying24]; exact List.mem_cons_self)
      rw [Yba.bytes9] at this
      simp only [strs, List.length_map, List.length_take, List.length_drop] at this
      omega
    refine ⟨some a, len, cap, fun i => if i < len then ss.getD i ByteArray.empty else ByteArray.empty, rfl, hkn, fun i hi => ?_, fun i => ?_⟩
    · obtain ⟨b, off, spot⟩ := a
      have c0 := hcell i (by omega)
      have hspot : spot = none := by
        have := World.cell?_spot (hcell 0 (by omega))
        simpa [Addr.add] using this
      subst hspot
      rw [add_plain] at c0
      simp only [if_pos hi]
      exact ⟨b, off, rfl, c0⟩
    · by_cases hi : i < len
      · simp only [if_pos hi]
        refine hsz _ ?_
        have hi2 : i < ss.length := by omega
        have e : ss.getD i ByteArray.empty = (ss.take len)[i]'(by simp; omega) := by simp [List.getD, List.getElem?_eq_getElem hi2]
        rw [e]
        exact List.getElem_mem _
      · simp only [if_neg hi]
        decide

set_option maxRecDepth 100000 in
theorem sets_open {a0 : Option Addr} {len cap : Nat} {x : DataW H × List MemPlace} (hf : DataW.trod enc Yba.prog W 0 (fun _ => true) true fuel 23 [.slice a0 len cap] = some x) (hw : ∀ n ∈ x.1.weights Yba.prog 23, n ≤ reachBytes) :
    ∃ Q : Nat → SetQ, (∀ k, k < len → (∃ b off, a0 = some ⟨b, off, none⟩ ∧ W.cell? ⟨b, off + k * 3, none⟩ = some (.slice (Q k).ka (Q k).kn (Q k).kc) ∧ W.cell? ⟨b, off + k * 3 + 1, none⟩ = some (.int .i64 (Q k).Lo) ∧ W.cell? ⟨b, off + k * 3 + 2, none⟩ = some (.int .i64 (Q k).Hi)) ∧
      (∀ i, i < (Q k).kn → ∃ b off, (Q k).ka = some ⟨b, off, none⟩ ∧ W.cell? ⟨b, off + i, none⟩ = some (.string ((Q k).S i))) ∧ (Q k).kn ≤ reachBytes) ∧ ∀ k i, ((Q k).S i).size ≤ reachBytes := by
  rcases open_slice Yba.underlying23 hf with ⟨hcs, hx⟩ | ⟨a, len', cap', m, n, D, Pl, hcs, _, hl, hm, hz, hx, hcell⟩
  · simp at hcs
    exact ⟨fun _ => ⟨none, 0, 0, 0, 0, fun _ => ByteArray.empty⟩, fun k hk => by omega, fun _ _ => by show ByteArray.empty.size ≤ reachBytes; decide⟩
  · simp at hcs
    obtain ⟨rfl, rfl, rfl⟩ := hcs
    simp only [if_true] at hz
    have each : ∀ k, k < len → ∃ q : SetQ, (W.cell? (a.add (k * 3)) = some (.slice q.ka q.kn q.kc) ∧ W.cell? (a.add (k * 3 + 1)) = some (.int .i64 q.Lo) ∧ W.cell? (a.add (k * 3 + 2)) = some (.int .i64 q.Hi)) ∧
        (∀ i, i < q.kn → ∃ b off, q.ka = some ⟨b, off, none⟩ ∧ W.cell? ⟨b, off + i, none⟩ = some (.string (q.S i))) ∧ q.kn ≤ reachBytes ∧ ∀ i, (q.S i).size ≤ reachBytes := fun k hk => by
      obtain ⟨cs', h1, h2⟩ := hcell k (by omega)
      rw [Yba.cells26] at h1
      obtain ⟨_, hlen, hc⟩ := World.cells?_some h1
      obtain ⟨xs, k', _, hxy, _, hxl, hfld⟩ := DataW.trod_struct Yba.underlying26 h2
      match xs, hxl, cs', hlen with
      | [y0, y1, y2], _, [v0, v1, v2], _ =>
        have g0 := hfld 0 _ rfl
        have g1 := hfld 1 _ rfl
        have g2 := hfld 2 _ rfl
        simp [Yba.cells24, Yba.cells3] at g0 g1 g2
        have e0 := hc 0 (by omega)
        have e1 := hc 1 (by omega)
        have e2 := hc 2 (by omega)
        rw [add_add] at e0 e1 e2
        simp at e0 e1 e2
        simp only [Prod.mk.injEq] at hxy
        obtain ⟨ka, kn, kc, S, rfl, b1, b2, b3⟩ := strs_open g0 (fun q hq => by
          refine hw q ?_
          rw [hx]
          simp only [DataW.weights, Yba.underlying23, List.mem_cons, List.mem_append]
          refine Or.inr (Or.inl (weightsAll_mem (List.mem_map.2 ⟨k, List.mem_range.2 hk, rfl⟩) _ ?_))
          rw [hxy.1]
          simp only [DataW.weights, Yba.underlying26]
          simp [DataW.weightsEach, hq])
        obtain ⟨lo, f1, _, _⟩ := DataW.trod_int Yba.underlying3 g1
        obtain ⟨hi, f2, _, _⟩ := DataW.trod_int Yba.underlying3 g2
        simp only [List.cons.injEq, and_true] at f1 f2
        subst f1 f2
        exact ⟨⟨ka, kn, kc, lo, hi, S⟩, ⟨by simpa using e0, by simpa using e1, by simpa using e2⟩, b2, b1, b3⟩
    have inh : Inhabited SetQ := ⟨⟨none, 0, 0, 0, 0, fun _ => ByteArray.empty⟩⟩
    obtain ⟨f, hff⟩ := choose_lt each
    refine ⟨fun k => if k < len then f k else ⟨none, 0, 0, 0, 0, fun _ => ByteArray.empty⟩, fun k hk => ?_, fun k i => ?_⟩
    · obtain ⟨⟨c0, c1, c2⟩, q1, q2, _⟩ := hff k hk
      obtain ⟨b, off, spot⟩ := a
      have hspot : spot = none := by
        have := World.cell?_spot (hff 0 (by omega)).1.1
        simpa [Addr.add] using this
      subst hspot
      rw [add_plain] at c0 c1 c2
      simp only [if_pos hk]
      exact ⟨⟨b, off, rfl, c0, by rw [Nat.add_assoc]; exact c1, by rw [Nat.add_assoc]; exact c2⟩, q1, q2⟩
    · by_cases hk : k < len
      · simp only [if_pos hk]
        exact (hff k hk).2.2.2 i
      · simp only [if_neg hk]
        decide
end
end Go.Proofs.Ybulkexnvq
