/-
  THE LAW's SMALL ITEMS.
-/
import Derived.Test.YbulkexnvqSeg10
namespace Go.Proofs.Ybulkexnvq
open Go Go.RowKit Go.Maps

/-- The slots that matter up to item 16. -/
structure Sm (a : Act) (v0 v1 v2 v10 v11 v14 v15 v16 v27 v28 v33 v34 v35 v36 : Value) : Prop where
  fr : Fr a
  c0 : cell a 0 = v0
  c1 : cell a 1 = v1
  c2 : cell a 2 = v2
  c10 : cell a 10 = v10
  c11 : cell a 11 = v11
  c14 : cell a 14 = v14
  c15 : cell a 15 = v15
  c16 : cell a 16 = v16
  c27 : cell a 27 = v27
  c28 : cell a 28 = v28
  c33 : cell a 33 = v33
  c34 : cell a 34 = v34
  c35 : cell a 35 = v35
  c36 : cell a 36 = v36

def PostM (v0 v1 v2 v10 v11 v14 v15 v16 v27 v28 v33 v34 v35 v36 : Value) (R : World → Prop) (x : Exit) (a' : Act) (w' : World) : Prop := x = .normal ∧ Sm a' v0 v1 v2 v10 v11 v14 v15 v16 v27 v28 v33 v34 v35 v36 ∧ R w'

set_option maxRecDepth 100000 in
set_option maxHeartbeats 3200000 in
theorem i0  (v0 v1 v2 v10 v11 v14 v15 v16 v27 v28 v33 v34 v35 v36 : Value) (w : World) (a : Act) (h : Sm a v0 v1 v2 v10 v11 v14 v15 v16 v27 v28 v33 v34 v35 v36)  :
    Code.wp Yba.prog (item 0) (PostM v0 v1 v2 v10 v11 v14 v15 v16 v27 v28 v33 v34 v35 v36 (fun w' => w' = w)) a w := by
  obtain ⟨fr, c0, c1, c2, c10, c11, c14, c15, c16, c27, c28, c33, c34, c35, c36⟩ := h
  rw [fr.open']
  unfold listF
  rw [c0, c1, c2, c10, c11, c14, c15, c16, c27, c28, c33, c34, c35, c36]
  clear c0 c1 c2 c10 c11 c14 c15 c16 c27 c28 c33 c34 c35 c36 fr
  generalize cell a = f
  clear a
  conv => arg 2; whnf
  go_wp2
  exact ⟨rfl, ⟨⟨rfl, rfl⟩, rfl, rfl, rfl, rfl, rfl, rfl, rfl, rfl, rfl, rfl, rfl, rfl, rfl, rfl⟩, rfl⟩

set_option maxRecDepth 100000 in
set_option maxHeartbeats 3200000 in
theorem i1 (ha sa : Option Addr) (n m hc sc : Nat) (v2 v10 v11 v14 v15 v16 v27 v28 v33 v34 v35 v36 : Value) (w : World) (a : Act) (h : Sm a (.slice ha n hc) (.slice sa m sc) v2 v10 v11 v14 v15 v16 v27 v28 v33 v34 v35 v36) (hn : n ≤ 4096) (hm : m ≤ 4096) :
    Code.wp Yba.prog (item 1) (PostM (.slice ha n hc) (.slice sa m sc) v2 v10 v11 v14 v15 v16 v27 v28 v33 v34 v35 v36 (fun w' => w' = w)) a w := by
  obtain ⟨fr, c0, c1, c2, c10, c11, c14, c15, c16, c27, c28, c33, c34, c35, c36⟩ := h
  rw [fr.open']
  unfold listF
  rw [c0, c1, c2, c10, c11, c14, c15, c16, c27, c28, c33, c34, c35, c36]
  clear c0 c1 c2 c10 c11 c14 c15 c16 c27 c28 c33 c34 c35 c36 fr
  generalize cell a = f
  clear a
  conv => arg 2; whnf
  go_wp2
  exact ⟨rfl, ⟨⟨rfl, rfl⟩, rfl, rfl, rfl, rfl, rfl, rfl, rfl, rfl, rfl, rfl, rfl, rfl, rfl, rfl⟩, rfl⟩

set_option maxRecDepth 100000 in
set_option maxHeartbeats 3200000 in
theorem i4 (md : Int) (v0 v1 v10 v11 v14 v15 v16 v27 v28 v33 v34 v35 v36 : Value) (w : World) (a : Act) (h : Sm a v0 v1 (.int .u8 md) v10 v11 v14 v15 v16 v27 v28 v33 v34 v35 v36)  :
    Code.wp Yba.prog (item 4) (PostM v0 v1 (.int .u8 md) (.int .u8 md) v11 v14 v15 v16 v27 v28 v33 v34 v35 v36 (fun w' => w' = w)) a w := by
  obtain ⟨fr, c0, c1, c2, c10, c11, c14, c15, c16, c27, c28, c33, c34, c35, c36⟩ := h
  rw [fr.open']
  unfold listF
  rw [c0, c1, c2, c10, c11, c14, c15, c16, c27, c28, c33, c34, c35, c36]
  clear c0 c1 c2 c10 c11 c14 c15 c16 c27 c28 c33 c34 c35 c36 fr
  generalize cell a = f
  clear a
  conv => arg 2; whnf
  go_wp2
  exact ⟨rfl, ⟨⟨rfl, rfl⟩, rfl, rfl, rfl, rfl, rfl, rfl, rfl, rfl, rfl, rfl, rfl, rfl, rfl, rfl⟩, rfl⟩

set_option maxRecDepth 100000 in
set_option maxHeartbeats 3200000 in
theorem i5  (v0 v1 v2 v10 v11 v14 v15 v16 v27 v28 v33 v34 v35 v36 : Value) (w : World) (a : Act) (h : Sm a v0 v1 v2 v10 v11 v14 v15 v16 v27 v28 v33 v34 v35 v36)  :
    Code.wp Yba.prog (item 5) (PostM v0 v1 v2 v10 (.map (some w.heap.size)) v14 v15 v16 v27 v28 v33 v34 v35 v36 (fun w' => w' = w.alloc (.map #[] 0))) a w := by
  obtain ⟨fr, c0, c1, c2, c10, c11, c14, c15, c16, c27, c28, c33, c34, c35, c36⟩ := h
  rw [fr.open']
  unfold listF
  rw [c0, c1, c2, c10, c11, c14, c15, c16, c27, c28, c33, c34, c35, c36]
  clear c0 c1 c2 c10 c11 c14 c15 c16 c27 c28 c33 c34 c35 c36 fr
  generalize cell a = f
  clear a
  conv => arg 2; whnf
  have hmm := @run_makeMap Yba.prog
  go_wp2
  exact ⟨rfl, ⟨⟨rfl, rfl⟩, rfl, rfl, rfl, rfl, rfl, rfl, rfl, rfl, rfl, rfl, rfl, rfl, rfl, rfl⟩, rfl⟩

set_option maxRecDepth 100000 in
set_option maxHeartbeats 3200000 in
theorem i7  (v0 v1 v2 v10 v11 v14 v15 v16 v27 v28 v33 v34 v35 v36 : Value) (w : World) (a : Act) (h : Sm a v0 v1 v2 v10 v11 v14 v15 v16 v27 v28 v33 v34 v35 v36)  :
    Code.wp Yba.prog (item 7) (PostM v0 v1 v2 v10 v11 (.slice none 0 0) v15 v16 v27 v28 v33 v34 v35 v36 (fun w' => w' = w)) a w := by
  obtain ⟨fr, c0, c1, c2, c10, c11, c14, c15, c16, c27, c28, c33, c34, c35, c36⟩ := h
  rw [fr.open']
  unfold listF
  rw [c0, c1, c2, c10, c11, c14, c15, c16, c27, c28, c33, c34, c35, c36]
  clear c0 c1 c2 c10 c11 c14 c15 c16 c27 c28 c33 c34 c35 c36 fr
  generalize cell a = f
  clear a
  conv => arg 2; whnf
  go_wp2
  exact ⟨rfl, ⟨⟨rfl, rfl⟩, rfl, rfl, rfl, rfl, rfl, rfl, rfl, rfl, rfl, rfl, rfl, rfl, rfl, rfl⟩, rfl⟩

set_option maxRecDepth 100000 in
set_option maxHeartbeats 3200000 in
theorem i8  (v0 v1 v2 v10 v11 v14 v15 v16 v27 v28 v33 v34 v35 v36 : Value) (w : World) (a : Act) (h : Sm a v0 v1 v2 v10 v11 v14 v15 v16 v27 v28 v33 v34 v35 v36)  :
    Code.wp Yba.prog (item 8) (PostM v0 v1 v2 v10 v11 v14 (.slice none 0 0) v16 v27 v28 v33 v34 v35 v36 (fun w' => w' = w)) a w := by
  obtain ⟨fr, c0, c1, c2, c10, c11, c14, c15, c16, c27, c28, c33, c34, c35, c36⟩ := h
  rw [fr.open']
  unfold listF
  rw [c0, c1, c2, c10, c11, c14, c15, c16, c27, c28, c33, c34, c35, c36]
  clear c0 c1 c2 c10 c11 c14 c15 c16 c27 c28 c33 c34 c35 c36 fr
  generalize cell a = f
  clear a
  conv => arg 2; whnf
  go_wp2
  exact ⟨rfl, ⟨⟨rfl, rfl⟩, rfl, rfl, rfl, rfl, rfl, rfl, rfl, rfl, rfl, rfl, rfl, rfl, rfl, rfl⟩, rfl⟩

set_option maxRecDepth 100000 in
set_option maxHeartbeats 3200000 in
theorem i9  (v0 v1 v2 v10 v11 v14 v15 v16 v27 v28 v33 v34 v35 v36 : Value) (w : World) (a : Act) (h : Sm a v0 v1 v2 v10 v11 v14 v15 v16 v27 v28 v33 v34 v35 v36)  :
    Code.wp Yba.prog (item 9) (PostM v0 v1 v2 v10 v11 v14 v15 (.slice none 0 0) v27 v28 v33 v34 v35 v36 (fun w' => w' = w)) a w := by
  obtain ⟨fr, c0, c1, c2, c10, c11, c14, c15, c16, c27, c28, c33, c34, c35, c36⟩ := h
  rw [fr.open']
  unfold listF
  rw [c0, c1, c2, c10, c11, c14, c15, c16, c27, c28, c33, c34, c35, c36]
  clear c0 c1 c2 c10 c11 c14 c15 c16 c27 c28 c33 c34 c35 c36 fr
  generalize cell a = f
  clear a
  conv => arg 2; whnf
  go_wp2
  exact ⟨rfl, ⟨⟨rfl, rfl⟩, rfl, rfl, rfl, rfl, rfl, rfl, rfl, rfl, rfl, rfl, rfl, rfl, rfl, rfl⟩, rfl⟩

set_option maxRecDepth 100000 in
set_option maxHeartbeats 3200000 in
theorem i11  (v0 v1 v2 v10 v11 v14 v15 v16 v27 v28 v33 v34 v35 v36 : Value) (w : World) (a : Act) (h : Sm a v0 v1 v2 v10 v11 v14 v15 v16 v27 v28 v33 v34 v35 v36)  :
    Code.wp Yba.prog (item 11) (PostM v0 v1 v2 v10 v11 v14 v15 v16 (.slice none 0 0) v28 v33 v34 v35 v36 (fun w' => w' = w)) a w := by
  obtain ⟨fr, c0, c1, c2, c10, c11, c14, c15, c16, c27, c28, c33, c34, c35, c36⟩ := h
  rw [fr.open']
  unfold listF
  rw [c0, c1, c2, c10, c11, c14, c15, c16, c27, c28, c33, c34, c35, c36]
  clear c0 c1 c2 c10 c11 c14 c15 c16 c27 c28 c33 c34 c35 c36 fr
  generalize cell a = f
  clear a
  conv => arg 2; whnf
  go_wp2
  exact ⟨rfl, ⟨⟨rfl, rfl⟩, rfl, rfl, rfl, rfl, rfl, rfl, rfl, rfl, rfl, rfl, rfl, rfl, rfl, rfl⟩, rfl⟩

set_option maxRecDepth 100000 in
set_option maxHeartbeats 3200000 in
theorem i12  (v0 v1 v2 v10 v11 v14 v15 v16 v27 v28 v33 v34 v35 v36 : Value) (w : World) (a : Act) (h : Sm a v0 v1 v2 v10 v11 v14 v15 v16 v27 v28 v33 v34 v35 v36)  :
    Code.wp Yba.prog (item 12) (PostM v0 v1 v2 v10 v11 v14 v15 v16 v27 (.int .i64 0) v33 v34 v35 v36 (fun w' => w' = w)) a w := by
  obtain ⟨fr, c0, c1, c2, c10, c11, c14, c15, c16, c27, c28, c33, c34, c35, c36⟩ := h
  rw [fr.open']
  unfold listF
  rw [c0, c1, c2, c10, c11, c14, c15, c16, c27, c28, c33, c34, c35, c36]
  clear c0 c1 c2 c10 c11 c14 c15 c16 c27 c28 c33 c34 c35 c36 fr
  generalize cell a = f
  clear a
  conv => arg 2; whnf
  go_wp2
  exact ⟨rfl, ⟨⟨rfl, rfl⟩, rfl, rfl, rfl, rfl, rfl, rfl, rfl, rfl, rfl, rfl, rfl, rfl, rfl, rfl⟩, rfl⟩

/-- The owner as the law lays it. -/
structure Laid (v11 v14 : Value) (w w' : World) : Prop where
  o0 : w'.cell? ⟨w.heap.size + 1, 0, none⟩ = some (.pointer (some ⟨w.heap.size, 0, none⟩))
  o2 : w'.cell? ⟨w.heap.size + 1, 2, none⟩ = some v11
  o5 : w'.cell? ⟨w.heap.size + 1, 5, none⟩ = some v14
  t0 : w'.cell? ⟨w.heap.size, 0, none⟩ = some (.int .i32 0)
  tf : w'.frozen? ⟨w.heap.size, 0, none⟩ = false
  kept : Kept (fun _ => False) w w'
  size : w'.heap.size = w.heap.size + 2

theorem laid_mk (v11 v14 : Value) (w : World) : Laid v11 v14 w ((w.alloc (.cells #[.int .i32 0, .int .u32 0, .map none, .int .i64 0, .map none, .map none, .map none] 55)).alloc (.cells #[.pointer (some ⟨w.heap.size, 0, none⟩), .int .u64 0, v11, .int .i64 0, .slice none 0 0, v14, .pointer none, .bool false, .bool false, .chan none, .chan none, .nilFunc, .int .u64 0] 62)) := by
  have r : ∀ o, RowF ((w.alloc (.cells #[.int .i32 0, .int .u32 0, .map none, .int .i64 0, .map none, .map none, .map none] 55)).alloc o) w.heap.size 55 7 (fun i => ([.int .i32 0, .int .u32 0, .map none, .int .i64 0, .map none, .map none, .map none] : List Value).getD i undef) := fun o =>
    (RowF.alloc_new w 55 #[.int .i32 0, .int .u32 0, .map none, .int .i64 0, .map none, .map none, .map none] 7 (fun i => ([.int .i32 0, .int .u32 0, .map none, .int .i64 0, .map none, .map none, .map none] : List Value).getD i undef) rfl).alloc o
  refine ⟨?_, ?_, ?_, (r _).cell (i := 0) (by decide), (r _).frozen 0, ((Kept.refl _ _).alloc _).alloc _, by simp⟩ <;> (rw [World.cell?_alloc_at (hn := by simp)]; rfl)

set_option maxRecDepth 100000 in
set_option maxHeartbeats 3200000 in
theorem i14 (mb : Nat) (o14 : Option Addr) (n14 k14 : Nat) (v0 v1 v2 v10 v15 v16 v27 v28 v33 v34 v35 v36 : Value) (w : World) (a : Act) (h : Sm a v0 v1 v2 v10 (.map (some mb)) (.slice o14 n14 k14) v15 v16 v27 v28 v33 v34 v35 v36)  :
    Code.wp Yba.prog (item 14) (PostM v0 v1 v2 v10 (.map (some mb)) (.slice o14 n14 k14) v15 v16 v27 v28 (.pointer (some ⟨w.heap.size + 1, 0, none⟩)) v34 v35 v36 (fun w' => Laid (.map (some mb)) (.slice o14 n14 k14) w w')) a w := by
  obtain ⟨fr, c0, c1, c2, c10, c11, c14, c15, c16, c27, c28, c33, c34, c35, c36⟩ := h
  rw [fr.open']
  unfold listF
  rw [c0, c1, c2, c10, c11, c14, c15, c16, c27, c28, c33, c34, c35, c36]
  clear c0 c1 c2 c10 c11 c14 c15 c16 c27 c28 c33 c34 c35 c36 fr
  generalize cell a = f
  clear a
  conv => arg 2; whnf
  go_wp2
  exact ⟨rfl, ⟨⟨rfl, rfl⟩, rfl, rfl, rfl, rfl, rfl, rfl, rfl, rfl, rfl, rfl, rfl, rfl, rfl, rfl⟩, laid_mk _ _ _⟩

set_option maxRecDepth 100000 in
set_option maxHeartbeats 3200000 in
theorem i16 (o16 o27 : Option Addr) (n16 k16 n27 k27 : Nat) (v0 v1 v2 v10 v11 v14 v15 v28 v33 v34 v35 v36 : Value) (w : World) (a : Act) (h : Sm a v0 v1 v2 v10 v11 v14 v15 (.slice o16 n16 k16) (.slice o27 n27 k27) v28 v33 v34 v35 v36)  :
    Code.wp Yba.prog (item 16) (PostM v0 v1 v2 v10 v11 v14 v15 (.slice o16 n16 k16) (.slice o27 n27 k27) v28 v33 v34 (.int .i64 n27) (.int .i64 n16) (fun w' => w' = w)) a w := by
  obtain ⟨fr, c0, c1, c2, c10, c11, c14, c15, c16, c27, c28, c33, c34, c35, c36⟩ := h
  rw [fr.open']
  unfold listF
  rw [c0, c1, c2, c10, c11, c14, c15, c16, c27, c28, c33, c34, c35, c36]
  clear c0 c1 c2 c10 c11 c14 c15 c16 c27 c28 c33 c34 c35 c36 fr
  generalize cell a = f
  clear a
  conv => arg 2; whnf
  go_wp2
  exact ⟨rfl, ⟨⟨rfl, rfl⟩, rfl, rfl, rfl, rfl, rfl, rfl, rfl, rfl, rfl, rfl, rfl, rfl, rfl, rfl⟩, rfl⟩

end Go.Proofs.Ybulkexnvq
