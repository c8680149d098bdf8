/-
  THE ROW OF locks.LawS194054CWhole, PROVED.
-/
import Derived.Test.YbulkexnvqOpen
namespace Go.Proofs.Ybulkexnvq
open Go.ChangeShapes Go.WideShapes Go.ChangeAt Go.RowKit Go.Deep

theorem Yba.own : ownKnob Yba.prog.godebug = none := by kernel_rfl
theorem Yba.laidOut : laidOutB Yba.prog = true := by kernel_rfl

set_option maxRecDepth 100000 in
theorem law_long (v0 : Value) (ha sa : Option Addr) (n hc m sc : Nat) (w : World) (h : 4096 < n ∨ 4096 < m) :
    Calls Yba.prog 3 #[.slice ha n hc, .slice sa m sc, v0] w fun e w' => e = .returned (.bool true) ∧ Below w.heap.size w w' := by
  by_cases hn : 4096 < n
  · go_enter Yba.func3, Yba.ntmps3
    go_wp2
    go_ret
    exact ⟨rfl, Below.refl _ _⟩
  · have hm : 4096 < m := by omega
    go_enter Yba.func3, Yba.ntmps3
    go_wp2
    go_ret
    exact ⟨rfl, Below.refl _ _⟩

set_option maxRecDepth 100000 in
theorem lifted (os : Os) (started : os.Started) (H : Type) (enc : TypeId × Value → H) :
    ReturnsInHanded {} Yba.checked os 3 .any (Rows.lawS194054CWholeSpec.pre6 enc Yba.prog Yba.f3 Rows.lawS194054CWholeRow.domain false) (Rows.lawS194054CWholeSpec.post enc Yba.prog Yba.f3 false true false false) := by
  refine returnsInHanded_of_change_sized (C := Yba.checked) Yba.own started (by kernel_rfl) Yba.func3
    (ChangeSpec.witness6 (enc := enc) (C := Yba.checked) false ⟨#[], #[.slice none 0 0, .slice none 0 0, .int .u8 0], []⟩ 8 (by kernel_rfl) (by kernel_rfl) (by kernel_rfl) (by kernel_rfl)) ?_
  intro W base args ds gs before hval0 hW hcnd hsz0 _
  have hsz : (DataW.weightsEach Yba.prog (Yba.f3.params.toList ++ Rows.lawS194054CWholeSpec.plain.varTypes Yba.prog) (ds ++ gs)).all (· ≤ reachBytes) = true := hsz0
  clear hsz0
  have hval : ∀ (j : Nat) t v, Yba.f3.params[j]? = some t → args[j]? = some v → Value.okWide Yba.prog W .any base t v := hval0
  have hW' := hW
  obtain ⟨p, q, hA0, hV, rfl, hfz, hnd⟩ := hW
  have hA : DataW.TrodAll enc Yba.prog W 0 (fun _ => true) true Yba.f3.params.toList args.toList ds p := hA0
  rw [Yba.params3] at hA hval hsz
  obtain ⟨v0, v1, v2, d0, d1, d2, p0, p1, p2, rfl, rfl, rfl, h0, h1, h2⟩ := trodAll_three hA
  obtain ⟨rfl, rfl⟩ := trodVars_none hV
  obtain ⟨md, rfl, rfl, rfl, wm⟩ := open_int Yba.underlying5 (hval 2 5 v2 rfl rfl) h2
  obtain ⟨a0, n, hc, rfl⟩ := okWide_slice Yba.underlying22 (hval 0 22 v0 rfl rfl)
  obtain ⟨a1, m, sc, rfl⟩ := okWide_slice Yba.underlying23 (hval 1 23 v1 rfl rfl)
  have h0k := h0
  have h1k := h1
  obtain ⟨fuel0, hf0⟩ := h0
  obtain ⟨fuel1, hf1⟩ := h1
  clear hA0 hval0
  simp only [List.append_nil] at hW' hsz
  have hlt : ∀ x ∈ p0 ++ p1, x.block < W.heap.size := fun x hx => by simpa using hW'.lt x (by simpa using hx)
  have fin : ∀ (e : Ending) (W' : World), (e = .returned (.bool true) ∧ Below W.heap.size W W') →
      ∃ v, e = Ending.returned v ∧ Rows.lawS194054CWholeSpec.post enc Yba.checked.prog Yba.f3 false true false false W #[.slice a0 n hc, .slice a1 m sc, .int .u8 md] v W' := by
    rintro e W' ⟨rfl, hnx⟩
    refine ⟨_, rfl, _, _, _, [], p0 ++ (p1 ++ []), [], hW', ?_, ?_, rfl, hnx.frame _, fun h => by cases h⟩
    · exact trodAll_mk1 (shut_bool Yba.underlying4 true)
    · exact trodAll_mk3 (Below.trod Yba.laidOut (by kernel_rfl) (of_decide_eq_true (by kernel_rfl)) h0k hnx (fun x hx => hlt x (List.mem_append_left _ hx))) (Below.trod Yba.laidOut (by kernel_rfl) (of_decide_eq_true (by kernel_rfl)) h1k hnx (fun x hx => hlt x (List.mem_append_right _ hx))) (shut_int Yba.underlying5 wm)
  obtain ⟨m0, m1⟩ := u8_bounds wm
  obtain ⟨mode, rfl⟩ := Int.eq_ofNat_of_zero_le m0
  by_cases hbig : 4096 < n ∨ 4096 < m
  · exact (law_long _ a0 a1 n hc m sc W hbig).mono fin
  obtain ⟨K, M, hheld, hK⟩ := held_open hf0 (fun q hq => of_decide_eq_true (List.all_eq_true.1 hsz _ (DataW.weights_mem_each (j := 0) rfl rfl q hq)))
  obtain ⟨Q, hsets, hS⟩ := sets_open hf1 (fun q hq => of_decide_eq_true (List.all_eq_true.1 hsz _ (DataW.weights_mem_each (j := 1) rfl rfl q hq)))
  have hr := reach_eq
  exact (law_main { n := n, ha := a0, hc := hc, K := K, M := M, m := m, sa := a1, sc := sc, kn := fun k => (Q k).kn, ka := fun k => (Q k).ka, kc := fun k => (Q k).kc, Lo := fun k => (Q k).Lo, Hi := fun k => (Q k).Hi, S := fun k => (Q k).S, mode := mode } W
    ⟨fun k hk => by obtain ⟨b, off, q1, q2, q3, _⟩ := hheld k hk; exact ⟨b, off, q1, q2, q3⟩, fun k hk => (hsets k hk).1, fun k hk => (hsets k hk).2.1⟩ (by show n ≤ 4096; omega) (by show m ≤ 4096; omega) (fun k hk => by obtain ⟨_, _, _, _, _, q⟩ := hheld k hk; exact q)
    (fun i => by have := hK i; show (K i).size ≤ _; omega) (fun k hk => by have := (hsets k hk).2.2; show (Q k).kn ≤ _; omega) (fun k i => by have := hS k i; show ((Q k).S i).size ≤ _; omega)).mono fin

theorem lawS194054CWhole_holds : Rows.LawS194054CWholeSaid :=
  OpenClaim.holds_of_wide 3 Yba.f3 rfl rfl rfl rfl rfl rfl rfl ⟨rfl, rfl, rfl, rfl, rfl⟩ rfl rfl rfl rfl rfl (by kernel_rfl) Yba.func3 (by kernel_rfl)
    (of_decide_eq_true (by kernel_rfl)) (by unfold Func.isWrapper; first | (rw [if_pos (by decide +kernel)]; kernel_rfl) | (rw [if_neg (by decide +kernel)]; exact ⟨rfl, rfl⟩))
    (fun os started H enc _ => lifted os started H enc)
#print axioms lawS194054CWhole_holds
end Go.Proofs.Ybulkexnvq
