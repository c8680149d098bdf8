/-
  THE SETS' METHODS: Has, NewSet, Add, Union; slices.Equal at Set.
-/
import Derived.Test.YbulkexnyiRows
import Derived.Test.YbulkexnyiMem
import Derived.Test.YbulkexnyiBits
import Derived.WalkLawsBesides
import Derived.RegionTactic
import Derived.BigRegion
import Derived.Deep.LoopGhost
namespace Go.Proofs.Ybulkexnyi
open Go Go.RowKit

/-- Block b holds the set p, in W words. -/
def SetAt (w : World) (b W : Nat) (p : Nat → Bool) : Prop := RowF w b 47 W (fun k => .int .u64 (wrd p k))

theorem SetAt.congr {w : World} {b W : Nat} {p q : Nat → Bool} (h : SetAt w b W p) (e : ∀ j, j < 64 * W → p j = q j) : SetAt w b W q := by
  refine RowF.congr h fun k hk => ?_
  rw [wrd_congr (p := p) (q := q) fun j hj => e _ (by omega)]

theorem pow_wrap (r : Nat) (hr : r < 64) : IntKind.u64.wrap ((2 : Int) ^ r) = ((2 ^ r : Nat) : Int) := by
  rw [IntKind.wrap_u64]
  have h : (2 : Nat) ^ r < 18446744073709551616 := Nat.lt_of_lt_of_le (Nat.pow_lt_pow_right (by decide) hr) (by decide)
  have e : ((2 : Int) ^ r) = ((2 ^ r : Nat) : Int) := by simp
  rw [e]
  generalize 2 ^ r = x at h
  omega

theorem pow_lt (r : Nat) (hr : r < 64) : (2 : Nat) ^ r < 18446744073709551616 := Nat.lt_of_lt_of_le (Nat.pow_lt_pow_right (by decide) hr) (by decide)

theorem and_word (p : Nat → Bool) (i : Nat) : (bits .and .u64 (wrd p (i / 64)) (IntKind.u64.wrap ((2 : Int) ^ (i % 64))) != 0) = p i := by
  have hm : i % 64 < 64 := Nat.mod_lt _ (by decide)
  rw [pow_wrap _ hm, u64_and_nat _ _ (wrd_lt _ _) (pow_lt _ hm), ← wrd_has p i]
  generalize wrd p (i / 64) &&& 2 ^ (i % 64) = x
  rw [Bool.eq_iff_iff]
  simp

theorem or_word (p : Nat → Bool) (i : Nat) : bits .or .u64 (wrd p (i / 64)) (IntKind.u64.wrap ((2 : Int) ^ (i % 64))) = (wrd (fun j => j == i || p j) (i / 64) : Int) := by
  have hm : i % 64 < 64 := Nat.mod_lt _ (by decide)
  rw [pow_wrap _ hm, u64_or_nat _ _ (wrd_lt _ _) (pow_lt _ hm), wrd_add]

theorem or_words (p q : Nat → Bool) (k : Nat) : bits .or .u64 (wrd p k) (wrd q k) = (wrd (fun j => p j || q j) k : Int) := by
  rw [u64_or_nat _ _ (wrd_lt _ _) (wrd_lt _ _), wrd_or]

theorem has_any (b W i : Nat) (p : Nat → Bool) (w : World) (hW : W ≤ 5) (hi : i < 64 * W) (h : SetAt w b W p) :
    Calls Yba.prog 8 #[.slice (some ⟨b, 0, none⟩) W W, .int .i64 i] w fun e w' => e = .returned (.bool (p i)) ∧ ∃ q, w' = w.drewN q := by
  have hc := RowF.cell h (i := i / 64) (by omega)
  have h1 : (i : Int) / 64 < (W : Int) := by omega
  clear h
  go_enter Yba.func8, Yba.ntmps8
  go_wp2
  go_quiet (fail)
  go_wp2
  go_ret
  exact ⟨by rw [and_word]; rfl, _, rfl⟩

theorem info_parts' {P : Program} {e : TypeId} {z : Value} {sz by' : Nat} (h : (P.info? e).map (fun i => (i.zero, i.size, i.bytes)) = some (some z, sz, by')) : ∃ i, P.info? e = some i ∧ i.zero = some z ∧ i.size = sz ∧ i.bytes = by' := by
  obtain ⟨i, hi, h⟩ := Option.map_eq_some_iff.1 h
  simp only [Prod.mk.injEq] at h
  exact ⟨i, hi, h.1, h.2.1, h.2.2⟩

theorem replicate_range (n : Nat) (v : Value) : List.replicate n v = (List.range n).map (fun _ => v) := by
  apply List.ext_getElem <;> simp

theorem make47 (n : Nat) (z : Int) (hz : z = n) (hn : n ≤ 65536) (w : World) : (Instr.makeSlice 41 (.int .i64 z) (.int .i64 z)).run Yba.prog w = .ok (.slice (some ⟨w.heap.size, 0, none⟩) n n) (w.alloc (.cells (madeCells #[.int .u64 0] n) 47)) := by
  subst hz
  obtain ⟨i, hi, hz, hs, hb⟩ := info_parts' (show (Yba.prog.info? 47).map (fun i => (i.zero, i.size, i.bytes)) = some (some (.int .u64 0), 1, 8) by kernel_rfl)
  have := run_make (P := Yba.prog) w 41 47 i _ Yba.underlying41 hi hz .i64 .i64 n n (by omega) (Int.le_refl _) (by rw [hb]; omega) (by omega)
  simpa [hs, Value.cells] using this

theorem SetAt.new (w : World) (W : Nat) : SetAt (w.alloc (.cells (madeCells #[.int .u64 0] W) 47)) w.heap.size W (fun _ => false) :=
  RowF.congr (RowF.alloc_new w 47 _ W (fun _ => .int .u64 0) (by rw [toList_madeCells_one, replicate_range])) fun k _ => by rw [wrd_zero]; rfl

theorem newset_any (n W : Nat) (hn : n ≤ 300) (hW : (n + 63) / 64 = W) (w : World) :
    Calls Yba.prog 9 #[.int .i64 n] w fun e w' => e = .returned (.slice (some ⟨w.heap.size, 0, none⟩) W W) ∧ w' = w.alloc (.cells (madeCells #[.int .u64 0] W) 47) := by
  have hm := make47 W (((n : Int) + 63) / 64) (by omega) (by omega)
  clear hW
  go_enter Yba.func9, Yba.ntmps9
  go_wp2
  go_ret
  exact ⟨rfl, rfl⟩

theorem add_any (b W i : Nat) (p : Nat → Bool) (w : World) (hW : W ≤ 5) (hi : i < 64 * W) (h : SetAt w b W p) :
    Calls Yba.prog 10 #[.slice (some ⟨b, 0, none⟩) W W, .int .i64 i] w fun e w' => e = .returned (.tuple #[]) ∧ SetAt w' b W (fun j => j == i || p j) ∧ Kept (· = b) w w' := by
  have hc := RowF.cell h (i := i / 64) (by omega)
  have hf := RowF.frozen h (i / 64)
  have h1 : (i : Int) / 64 < (W : Int) := by omega
  have H : Hid (SetAt w b W p) := h
  clear h
  go_enter Yba.func10, Yba.ntmps10
  go_wp2
  go_region
  go_end0
  refine ⟨rfl, ?_, ((Kept.refl (· = b) w).setCell (p := ⟨b, i / 64, none⟩) (.inl rfl) _).drew⟩
  rw [or_word]
  exact RowF.congr (RowF.set H.out (i / 64) _) fun k hk => by
    by_cases e : k = i / 64
    · subst e; simp
    · simp only [if_neg e]
      rw [wrd_other _ _ _ e]

theorem union_any (a b W : Nat) (p q : Nat → Bool) (w : World) (hW : W ≤ 5) (hab : a ≠ b) (ha : SetAt w a W p) (hb : SetAt w b W q) :
    Calls Yba.prog 11 #[.slice (some ⟨a, 0, none⟩) W W, .slice (some ⟨b, 0, none⟩) W W] w fun e w' => e = .returned (.tuple #[]) ∧ SetAt w' a W (fun j => p j || q j) ∧ Kept (· = a) w w' := by
  go_enter Yba.func11, Yba.ntmps11
  go_wp2
  go_loopg [7] W (fun g i wr => ∃ k : Nat, k + g = W ∧ i = .int .i64 k ∧ RowF wr a 47 W (fun j => if j < k then .int .u64 (wrd (fun j => p j || q j) j) else .int .u64 (wrd p j)) ∧ Kept (· = a) w wr)
  case atStart => exact ⟨0, by omega, rfl, RowF.congr ha fun k _ => by simp, Kept.refl _ _⟩
  case round =>
    obtain ⟨k, hk, rfl, hr, hkept⟩ := hrel
    by_cases hlt : k < W
    · have c1 := hr.cell hlt
      have c2 := (RowF.kept hb hkept (fun e => hab e.symm)).cell hlt
      have f1 := hr.frozen k
      simp only [Nat.lt_irrefl, if_false] at c1
      have HR : Hid (RowF wr a 47 W (fun j => if j < k then .int .u64 (wrd (fun j => p j || q j) j) else .int .u64 (wrd p j))) := hr
      have HK : Hid (Kept (· = a) w wr) := hkept
      clear ha hb hr hkept
      go_wp2
      go_region
      go_wp2
      go_roundg (gk - 1)
      case measure => omega
      case rel =>
        refine ⟨k + 1, by omega, by go_num, ?_, (HK.out.setCell (p := ⟨a, k, none⟩) (.inl rfl) _).drew⟩
        rw [or_words]
        exact RowF.congr (RowF.set HR.out k _) fun j hj => by
          by_cases e : j = k
          · subst e; simp
          · simp only [if_neg e]
            have : (j < k) ↔ (j < k + 1) := by omega
            simp only [this]
    · have HR : Hid (RowF wr a 47 W (fun j => if j < k then .int .u64 (wrd (fun j => p j || q j) j) else .int .u64 (wrd p j))) := hr
      have HK : Hid (Kept (· = a) w wr) := hkept
      clear ha hb hr hkept
      go_wp2
      go_end0
      exact ⟨rfl, RowF.congr HR.out fun j hj => by rw [if_pos (by omega)], HK.out⟩

theorem equal_any (a b W : Nat) (p : Nat → Bool) (w : World) (hW : W ≤ 5) (ha : SetAt w a W p) (hb : SetAt w b W p) :
    Calls Yba.prog 6 #[.slice (some ⟨a, 0, none⟩) W W, .slice (some ⟨b, 0, none⟩) W W] w fun e w' => e = .returned (.bool true) ∧ ∃ q, w' = w.drewN q := by
  go_enter Yba.func6, Yba.ntmps6
  go_wp2
  go_loopg [13] W (fun g i wr => ∃ k : Nat, k + g = W ∧ i = .int .i64 k ∧ ∃ q, wr = w.drewN q)
  case atStart => exact ⟨0, by omega, rfl, 0, rfl⟩
  case round =>
    obtain ⟨k, hk, rfl, q, rfl⟩ := hrel
    by_cases hlt : k < W
    · have c1 := RowF.cell ha hlt
      have c2 := RowF.cell hb hlt
      clear ha hb
      go_wp2
      go_quiet (fail)
      go_wp2
      go_roundg (gk - 1)
      case measure => omega
      case rel => exact ⟨k + 1, by omega, by go_num, _, rfl⟩
    · clear ha hb
      go_wp2
      go_ret
      exact ⟨rfl, _, rfl⟩
end Go.Proofs.Ybulkexnyi
