/-
  Closure.After
-/
import Derived.Test.YbulkexnyiReach
import Derived.Deep.RegionHeld3
namespace Go.Proofs.Ybulkexnyi
open Go Go.RowKit

set_option maxHeartbeats 1600000 in
theorem after_known (y : Lay) (i b : Nat) (hi : i < y.nn) (w : World) (lv : Nat → Option Nat) (hs : Stat y w) (hd : Dyn y w lv) (hb : lv i = some b) :
    Calls Yba.prog 4 #[.pointer (some ⟨y.C, 0, none⟩), .int .i64 i] w fun e w' => e = .returned (.slice (some ⟨b, 0, none⟩) y.W y.W) ∧ w' = w := by
  have q1 := hs.c1
  have q2 := hd.later.cell hi
  have en := eql_nil
  simp only [hb, setV] at q2
  clear hs hd hb
  go_enter Yba.func4, Yba.ntmps4
  go_wp2
  go_ret
  exact ⟨rfl, rfl⟩

theorem Stat.drew {y : Lay} {w : World} (h : Stat y w) : Stat y w.drew := ⟨h.c0, h.c1, h.c3, h.p0, h.p3, h.af, fun a ha => ownsRow_of_block (h.rows a ha) fun _ _ => rfl, h.none_, h.size⟩
theorem Dyn.drew {y : Lay} {w : World} {lv : Nat → Option Nat} (h : Dyn y w lv) : Dyn y w.drew lv := ⟨h.later, h.sets⟩
theorem Left.drew {y : Lay} {w w' : World} {lv lv' : Nat → Option Nat} (h : Left y w.drew lv w' lv') : Left y w lv w' lv' :=
  ⟨h.stat, h.dyn, h.mono, h.news, ⟨h.kept.os, h.kept.tape, h.kept.output, h.kept.size, h.kept.block⟩⟩

theorem Left.store {y : Lay} (ok : y.Ok) {w w2 : World} {lv lv2 : Nat → Option Nat} {i b : Nat} (hi : i < y.nn) (h : Left y w lv w2 lv2) (hb : SetAt w2 b y.W (R y.aft y.nn i)) (hL : b ≠ y.L) (hN : b = y.N ∨ w.heap.size ≤ b) (hn : lv i = none) :
    Left y w lv (w2.setCell ⟨y.L, i, none⟩ (.slice (some ⟨b, 0, none⟩) y.W y.W)) (fun k => if k = i then some b else lv2 k) := by
  have hk : Kept (· = y.L) w2 (w2.setCell ⟨y.L, i, none⟩ (.slice (some ⟨b, 0, none⟩) y.W y.W)) := (Kept.refl (· = y.L) w2).setCell (p := ⟨y.L, i, none⟩) (.inl rfl) _
  refine ⟨h.stat.kept ok hk (fun _ e => .inl e), ⟨(h.dyn.later.set i _).congr fun k hk => ?_, fun k c hc => ?_⟩, fun k c hc => ?_, fun k c hc => ?_, h.kept.trans hk⟩
  · by_cases e : k = i
    · simp [e, setV]
    · simp [e]
  · by_cases e : k = i
    · subst e
      simp only [if_true, Option.some.injEq] at hc
      subst hc
      exact ⟨hi, RowF.kept hb hk hL, hL⟩
    · simp only [if_neg e] at hc
      obtain ⟨h1, h2, h3⟩ := h.dyn.sets k c hc
      exact ⟨h1, RowF.kept h2 hk h3, h3⟩
  · have e : k ≠ i := fun e => by rw [e, hn] at hc; cases hc
    simp only [if_neg e]
    exact h.mono k c hc
  · by_cases e : k = i
    · simp only [if_pos e, Option.some.injEq] at hc
      subst hc
      exact .inr hN
    · simp only [if_neg e] at hc
      exact h.news k c hc

set_option maxHeartbeats 1600000 in
theorem after_new (y : Lay) (ok : y.Ok) (i : Nat) (hi : i < y.nn) (ih : Hid (∀ j, i < j → j < y.nn → AfterAt y j)) (w : World) (lv : Nat → Option Nat) (hs : Stat y w) (hd : Dyn y w lv) (hb : lv i = none) :
    Calls Yba.prog 4 #[.pointer (some ⟨y.C, 0, none⟩), .int .i64 i] w fun e w' => ∃ b lv', e = .returned (.slice (some ⟨b, 0, none⟩) y.W y.W) ∧ lv' i = some b ∧ Left y w lv w' lv' := by
  have q0 := hs.c0
  have q1 := hs.c1
  have q2 := hd.later.cell hi
  have q3 := hs.p3
  have q4 := hs.af.cell hi
  have en := eql_nil
  have hmf : ∀ (fn : Fn) (first cap : Array Value) (w : World), (Instr.makeFunc fn first cap).run Yba.prog w = .ok (.func fn first cap) w := fun _ _ _ _ => rfl
  have nC := ok.C.2
  have nP := ok.P.2
  have nA := ok.Af.2
  have HS := mkHid hs
  have HD := mkHid hd
  have HB := mkHid hb
  simp only [hb, setV] at q2
  clear hs hd hb
  go_enter Yba.func4, Yba.ntmps4
  go_wp2
  go_region_held3 (fun w' => w'.cell? ⟨y.C, 0, none⟩ = some (.pointer (some ⟨y.P, 0, none⟩)) ∧ w'.cell? ⟨y.C, 1, none⟩ = some (.slice (some ⟨y.L, 0, none⟩) y.nn y.nn) ∧ w'.cell? ⟨y.P, 3, none⟩ = some (.slice (some ⟨y.Af, 0, none⟩) y.nn y.nn) ∧ w'.cell? ⟨y.Af, i, none⟩ = some (y.av i)) (refine ⟨?_, ?_, ?_, ?_⟩ <;> first | assumption | (rw [World.cell?_setCell_other _ _ _ _ (by intro e; injection e; omega)]; assumption))
    (first | (go_at_call 7; refine (reach_any y ok i hi ih _ lv HS.out.drew HD.out.drew).mono ?_; rintro e w2 ⟨b, lv2, rfl, r1, r2, r3, r4⟩; have z0 := r4.stat.c0; have z1 := r4.stat.c1; have z2 := r4.stat.p3; have z3 := r4.stat.af.cell hi; have z4 := r4.dyn.later.cell hi; have z5 := r4.dyn.later.frozen i))
  have HL : Hid _ := Left.store ok hi r4.drew r1 r2 r3 HB.out
  clear r1 r2 r3 r4 q0 q1 q2 q3 q4
  go_wp2
  go_ret
  exact ⟨b, _, rfl, by simp, HL.out⟩

theorem after_any (y : Lay) (ok : y.Ok) : ∀ m i, y.nn - i ≤ m → i < y.nn → AfterAt y i
  | 0, i, h, hi => by omega
  | m + 1, i, h, hi => fun w lv hs hd => by
    have ih : Hid (∀ j, i < j → j < y.nn → AfterAt y j) := fun j h1 h2 => after_any y ok m j (by omega) h2
    cases hb : lv i with
    | none => exact after_new y ok i hi ih w lv hs hd hb
    | some b =>
      refine (after_known y i b hi w lv hs hd hb).mono ?_
      rintro e w' ⟨rfl, rfl⟩
      exact ⟨b, lv, rfl, hb, Left.refl hs hd⟩
end Go.Proofs.Ybulkexnyi
