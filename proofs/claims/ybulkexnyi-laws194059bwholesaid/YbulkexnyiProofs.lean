/-
  THE ROW OF plan.LawS194059BWhole, PROVED.
-/
import Derived.Test.YbulkexnyiRows
import Derived.Test.YbulkexnyiLaw
import Derived.ProofKit
import Derived.Deep.SlicePairs
namespace Go.Proofs.Ybulkexnyi
open Go.ChangeShapes Go.WideShapes Go.ChangeAt Go.RowKit Go.Deep

theorem Yba.own : ownKnob Yba.prog.godebug = none := by kernel_rfl
theorem Yba.laidOut : laidOutB Yba.prog = true := by kernel_rfl
theorem Yba.cells22 : Yba.prog.cellsOf 22 = 1 := by kernel_rfl
theorem Yba.cells26 : Yba.prog.cellsOf 26 = 2 := by kernel_rfl

theorem u16_bounds {n : Int} (h : (Lit.int .u16 n).wf = true) : 0 ≤ n ∧ n ≤ 65535 := by
  have h1 : IntKind.u16.min = 0 := rfl
  have h2 : IntKind.u16.max = 65535 := rfl
  simp only [Lit.wf, Bool.and_eq_true, decide_eq_true_eq, h1, h2] at h
  exact h

set_option maxRecDepth 100000 in
theorem lifted (os : Os) (started : os.Started) (H : Type) (enc : TypeId × Value → H) :
    ReturnsInHanded {} Yba.checked os 3 .any (Rows.lawS194059BWholeSpec.pre6 enc Yba.prog Yba.f3 Rows.lawS194059BWholeRow.domain false) (Rows.lawS194059BWholeSpec.post enc Yba.prog Yba.f3 false true false false) := by
  refine returnsInHanded_of_change (C := Yba.checked) Yba.own started (by kernel_rfl) Yba.func3
    (ChangeSpec.witness6 (enc := enc) (C := Yba.checked) false ⟨#[], #[.int .u16 0, .slice none 0 0, .int .u16 0], []⟩ 8 (by kernel_rfl) (by kernel_rfl) (by kernel_rfl) (by kernel_rfl)) ?_
  intro W base args ds gs before hval0 hW hcnd _
  have hval : ∀ (j : Nat) t v, Yba.f3.params[j]? = some t → args[j]? = some v → Value.okWide Yba.prog W .any base t v := hval0
  have hW' := hW
  obtain ⟨p, q, hA0, hV, rfl, hfz, hnd⟩ := hW
  have hA : DataW.TrodAll enc Yba.prog W 0 (fun _ => true) true Yba.f3.params.toList args.toList ds p := hA0
  rw [Yba.params3] at hA hval
  obtain ⟨v0, v1, v2, d0, d1, d2, p0, p1, p2, rfl, rfl, rfl, h0, h1, h2⟩ := trodAll_three hA
  obtain ⟨rfl, rfl⟩ := trodVars_none hV
  obtain ⟨n, rfl, rfl, rfl, wn⟩ := open_int Yba.underlying22 (hval 0 22 v0 rfl rfl) h0
  obtain ⟨i, rfl, rfl, rfl, wi⟩ := open_int Yba.underlying22 (hval 2 22 v2 rfl rfl) h2
  obtain ⟨a0, len, cap, rfl⟩ := okWide_slice Yba.underlying23 (hval 1 23 v1 rfl rfl)
  have h1k := h1
  obtain ⟨fuel, hf⟩ := h1
  clear hA0 hval0
  simp only [List.append_nil, List.nil_append] at hW'
  have hlt : ∀ x ∈ p1, x.block < W.heap.size := fun x hx => by simpa using hW'.lt x (by simpa using hx)
  have fin : ∀ (e : Ending) (W' : World), (e = .returned (.bool true) ∧ Below W.heap.size W W') →
      ∃ v, e = Ending.returned v ∧ Rows.lawS194059BWholeSpec.post enc Yba.checked.prog Yba.f3 false true false false W #[.int .u16 n, .slice a0 len cap, .int .u16 i] v W' := by
    rintro e W' ⟨rfl, hnx⟩
    refine ⟨_, rfl, _, _, _, [], [] ++ (p1 ++ []), [], hW', ?_, ?_, rfl, hnx.frame _, fun h => by cases h⟩
    · exact trodAll_mk1 (shut_bool Yba.underlying4 true)
    · exact trodAll_mk3 (shut_int Yba.underlying22 wn) (Below.trod Yba.laidOut (by kernel_rfl) (of_decide_eq_true (by kernel_rfl)) h1k hnx hlt) (shut_int Yba.underlying22 wi)
  obtain ⟨n0, n1⟩ := u16_bounds wn
  obtain ⟨i0, i1⟩ := u16_bounds wi
  obtain ⟨n, rfl⟩ := Int.eq_ofNat_of_zero_le n0
  obtain ⟨i, rfl⟩ := Int.eq_ofNat_of_zero_le i0
  by_cases hbig : 65536 < len
  · exact (law_long n i a0 len cap W hbig).mono fin
  have cells : ∃ eA eB : Nat → Nat, ∀ k, k < len → ∃ b off, a0 = some ⟨b, off, none⟩ ∧ W.cell? ⟨b, off + k * 2, none⟩ = some (.int .u16 (eA k)) ∧ W.cell? ⟨b, off + k * 2 + 1, none⟩ = some (.int .u16 (eB k)) ∧ eA k ≤ 65535 ∧ eB k ≤ 65535 := by
    rcases open_slice_pairs Yba.underlying23 Yba.underlying26 Yba.cells26 rfl rfl Yba.cells22 Yba.cells22 hf with ⟨hcs, hx⟩ | ⟨a, len', cap', m, k0, V0, V1, D0, D1, P0, P1, hcs, _, hl, hm, hz, hx, hcell⟩
    · simp [Value.cells] at hcs
      exact ⟨fun _ => 0, fun _ => 0, fun k hk => by omega⟩
    · simp [Value.cells] at hcs
      obtain ⟨rfl, rfl, rfl⟩ := hcs
      simp only [if_true] at hz
      have each : ∀ k, k < len → ∃ z : Nat × Nat, V0 k = .int .u16 z.1 ∧ V1 k = .int .u16 z.2 ∧ z.1 ≤ 65535 ∧ z.2 ≤ 65535 := fun k hk => by
        obtain ⟨_, _, g0, g1⟩ := hcell k (by omega)
        obtain ⟨x, e0, _, w0⟩ := DataW.trod_int Yba.underlying22 g0
        obtain ⟨y, e1, _, w1⟩ := DataW.trod_int Yba.underlying22 g1
        obtain ⟨x0, x1⟩ := u16_bounds w0
        obtain ⟨y0, y1⟩ := u16_bounds w1
        simp only [List.cons.injEq, and_true] at e0 e1
        exact ⟨(x.toNat, y.toNat), by rw [e0, Int.toNat_of_nonneg x0], by rw [e1, Int.toNat_of_nonneg y0], by simp only; omega, by simp only; omega⟩
      obtain ⟨f, hff⟩ := choose_lt each
      refine ⟨fun k => (f k).1, fun k => (f k).2, fun k hk => ?_⟩
      obtain ⟨c0, c1, _, _⟩ := hcell k (by omega)
      obtain ⟨b, off, spot⟩ := a
      have hspot : spot = none := by simpa [Addr.add] using World.cell?_spot (hcell 0 (by omega)).1
      subst hspot
      obtain ⟨e0, e1, b0, b1⟩ := hff k hk
      rw [add_plain, e0] at c0
      rw [add_plain, e1] at c1
      exact ⟨b, off, rfl, c0, by rw [Nat.add_assoc]; exact c1, b0, b1⟩
  obtain ⟨eA, eB, hc⟩ := cells
  have hnn : (1 : Int) + (n : Int) % 300 = ((1 + n % 300 : Nat) : Int) := by omega
  have hp : 0 < 1 + n % 300 := by omega
  exact (law_main n i a0 len cap eA eB (1 + n % 300) ((1 + n % 300 + 63) / 64) (i % (1 + n % 300)) W (by omega) (by omega) (by omega) hnn (by omega) (by simp) hp (by omega) hc).mono fin

theorem lawS194059BWhole_holds : Rows.LawS194059BWholeSaid :=
  OpenClaim.holds_of_wide 3 Yba.f3 rfl rfl rfl rfl rfl rfl rfl ⟨rfl, rfl, rfl, rfl, rfl⟩ rfl rfl rfl rfl rfl (by kernel_rfl) Yba.func3 (by kernel_rfl)
    (of_decide_eq_true (by kernel_rfl)) (by unfold Func.isWrapper; first | (rw [if_pos (by decide +kernel)]; kernel_rfl) | (rw [if_neg (by decide +kernel)]; exact ⟨rfl, rfl⟩))
    (fun os started H enc _ => lifted os started H enc)
#print axioms lawS194059BWhole_holds
end Go.Proofs.Ybulkexnyi
