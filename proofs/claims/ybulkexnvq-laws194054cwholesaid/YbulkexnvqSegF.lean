/-
  THE LAW's ITEMS 19 AND 21: two tests of lengths.
-/
import Derived.Test.YbulkexnvqInp
namespace Go.Proofs.Ybulkexnvq
open Go Go.RowKit

/-- Left by an item that only makes new memory: the slots that matter are as they were. -/
def PostK (v0 v1 v15 v28 v33 : Value) (w : World) (x : Exit) (a' : Act) (w' : World) : Prop :=
  x = .normal ∧ Fr a' ∧ (cell a' 0 = v0 ∧ cell a' 1 = v1 ∧ cell a' 15 = v15 ∧ cell a' 28 = v28 ∧ cell a' 33 = v33) ∧ Kept (fun _ => False) w w'

set_option maxRecDepth 100000 in
set_option maxHeartbeats 3200000 in
theorem seg21 (I : Inp) (ob hcap : Nat) (hso : Option Addr) (v0 v15 v28 : Value) (w : World) (a : Act) (fr : Fr a) (c0 : cell a 0 = v0) (c1 : cell a 1 = .slice I.sa I.m I.sc) (c15 : cell a 15 = v15) (c28 : cell a 28 = v28) (c33 : cell a 33 = .pointer (some ⟨ob, 0, none⟩))
    (o5 : w.cell? ⟨ob, 5, none⟩ = some (.slice hso I.m hcap)) :
    Code.wp Yba.prog (item 21) (PostK v0 (.slice I.sa I.m I.sc) v15 v28 (.pointer (some ⟨ob, 0, none⟩)) w) a w := by
  rw [fr.open']
  unfold listF
  rw [c0, c1, c15, c28, c33]
  clear c0 c1 c15 c28 c33 fr
  generalize cell a = f
  clear a
  conv => arg 2; whnf
  go_wp2
  exact ⟨rfl, ⟨rfl, rfl⟩, ⟨rfl, rfl, rfl, rfl, rfl⟩, Kept.refl _ _⟩

set_option maxRecDepth 100000 in
set_option maxHeartbeats 3200000 in
theorem seg19 (D : DataW Unit) (ob mb n : Nat) (v0 v1 v15 : Value) (w : World) (a : Act) (fr : Fr a) (c0 : cell a 0 = v0) (c1 : cell a 1 = v1) (c15 : cell a 15 = v15) (c28 : cell a 28 = .int .i64 (Maps.size D)) (c33 : cell a 33 = .pointer (some ⟨ob, 0, none⟩))
    (o2 : w.cell? ⟨ob, 2, none⟩ = some (.map (some mb))) (hown : w.ownsMap Yba.prog 9 (plainElem Yba.prog 27) mb n D) :
    Code.wp Yba.prog (item 19) (PostK v0 v1 v15 (.int .i64 (Maps.size D)) (.pointer (some ⟨ob, 0, none⟩)) w) a w := by
  rw [fr.open']
  unfold listF
  rw [c0, c1, c15, c28, c33]
  clear c0 c1 c15 c28 c33 fr
  generalize cell a = f
  clear a
  conv => arg 2; whnf
  go_wp2_with (first
    | (at_len; refine wpList_len_own _ rfl _ 28 rfl 9 27 Yba.underlying28 _ mb n _ rfl hown ?_)
    | go_in)
  exact ⟨rfl, ⟨rfl, rfl⟩, ⟨rfl, rfl, rfl, rfl, rfl⟩, Kept.refl _ _⟩
end Go.Proofs.Ybulkexnvq
