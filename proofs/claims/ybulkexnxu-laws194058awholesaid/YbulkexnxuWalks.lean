import Derived.Test.YbulkexnxuRows
import Derived.Test.YbulkexnxuMem
import Derived.WalkLawsBesides
import Derived.Deep.LoopGhost
namespace Go.Proofs.Ybulkexnxu
open Go Go.RowKit

/-- The stand-in body that holds the name s and has been asked m times. -/
def bodyF (s : ByteArray) (m : Int) : Nat → Value
  | 0 => .string s
  | 7 => .int .i64 m
  | _ => .int .i64 0

theorem range20 (p : Nat) (s : ByteArray) (w : World) (h : RowF w p 31 9 (bodyF s 0)) :
    Calls Yba.prog 20 #[.pointer (some ⟨p, 0, none⟩)] w fun e w' => e = .returned (.agg #[.string s, .int .i64 0, .int .i64 0, .int .i64 0, .int .i64 0, .int .i64 0, .int .i64 0]) ∧
      w' = (w.setCell ⟨p, 7, none⟩ (.int .i64 1)).alloc (.cells #[.string s, .int .i64 0, .int .i64 0, .int .i64 0, .int .i64 0, .int .i64 0, .int .i64 0] 29) := by
  have hp := h.lt
  have h0 := h.cell (i := 0) (by decide)
  have h1 := h.cell (i := 1) (by decide)
  have h2 := h.cell (i := 2) (by decide)
  have h3 := h.cell (i := 3) (by decide)
  have h4 := h.cell (i := 4) (by decide)
  have h5 := h.cell (i := 5) (by decide)
  have h6 := h.cell (i := 6) (by decide)
  have h7 := h.cell (i := 7) (by decide)
  have hf := h.frozen 7
  simp only [bodyF] at h0 h1 h2 h3 h4 h5 h6 h7
  clear h
  go_enter Yba.func20, Yba.ntmps20
  go_wp2
  exact bodyPost_ret (v := .agg #[.string s, .int .i64 0, .int .i64 0, .int .i64 0, .int .i64 0, .int .i64 0, .int .i64 0]) (by simp [results, Yba.results20, go_sem]) rfl ⟨rfl, rfl⟩

theorem range4_none (m : Nat) (a : Option Addr) (w : World) (h : w.cell? ⟨m, 0, none⟩ = some (.slice a 0 0)) :
    Calls Yba.prog 4 #[.pointer (some ⟨m, 0, none⟩)] w fun e w' => e = .returned (.agg #[.string ByteArray.empty, .int .i64 0, .int .i64 0, .int .i64 0, .int .i64 0, .int .i64 0, .int .i64 0]) ∧
      w' = w.alloc (.cells #[.string ByteArray.empty, .int .i64 0, .int .i64 0, .int .i64 0, .int .i64 0, .int .i64 0, .int .i64 0] 29) := by
  have hm := World.block_lt_of_cell? _ _ h
  simp only at hm
  go_enter Yba.func4, Yba.ntmps4
  go_wp2
  exact bodyPost_ret (v := .agg #[.string ByteArray.empty, .int .i64 0, .int .i64 0, .int .i64 0, .int .i64 0, .int .i64 0, .int .i64 0]) (by simp [results, Yba.results4, go_sem]; rfl) rfl ⟨rfl, rfl⟩

theorem Yba.methodRange (v : Value) (w : World) : (Go.method 224 25 v "Range").run Yba.prog w = .ok (20, v) w := by kernel_rfl

theorem range4_some (m B n p : Nat) (s : ByteArray) (w : World) (hn : 0 < n) (h : w.cell? ⟨m, 0, none⟩ = some (.slice (some ⟨B, 0, none⟩) n n)) (hb : w.cell? ⟨B, 0, none⟩ = some (.iface 25 (.pointer (some ⟨p, 0, none⟩)))) (hr : RowF w p 31 9 (bodyF s 0)) :
    Calls Yba.prog 4 #[.pointer (some ⟨m, 0, none⟩)] w fun e w' => e = .returned (.agg #[.string s, .int .i64 0, .int .i64 0, .int .i64 0, .int .i64 0, .int .i64 0, .int .i64 0]) ∧
      w' = ((w.setCell ⟨p, 7, none⟩ (.int .i64 1)).alloc (.cells #[.string s, .int .i64 0, .int .i64 0, .int .i64 0, .int .i64 0, .int .i64 0, .int .i64 0] 29)).alloc (.cells #[.string s, .int .i64 0, .int .i64 0, .int .i64 0, .int .i64 0, .int .i64 0, .int .i64 0] 29) := by
  have hm := World.block_lt_of_cell? _ _ h
  have hB := World.block_lt_of_cell? _ _ hb
  simp only at hm hB
  have hp := hr.lt
  have mR := Yba.methodRange
  have h0 : (0 : Int) < (n : Int) := by omega
  have HR : Hid (∀ o, RowF (w.alloc o) p 31 9 (bodyF s 0)) := fun o => hr.alloc o
  clear hr
  go_enter Yba.func4, Yba.ntmps4
  go_wp2_with (go_at_call 20; refine (range20 p s _ (HR.out _)).mono ?_; rintro e w' ⟨rfl, rfl⟩)
  exact bodyPost_ret (v := .agg #[.string s, .int .i64 0, .int .i64 0, .int .i64 0, .int .i64 0, .int .i64 0, .int .i64 0]) (by simp [results, Yba.results4, go_sem]) rfl ⟨rfl, rfl⟩

/-- THE FIRST LOOP's RELATION, k rounds done. -/
structure L1 (w : World) (n : Nat) (s : Nat → ByteArray) (k : Nat) (wr : World) : Prop where
  size : wr.heap.size = w.heap.size + 2 + k
  st : RowF wr w.heap.size 25 n (fun i => if i < k then .pointer (some ⟨w.heap.size + 2 + i, 0, none⟩) else .pointer none)
  bo : RowF wr (w.heap.size + 1) 33 n (fun i => if i < k then .iface 25 (.pointer (some ⟨w.heap.size + 2 + i, 0, none⟩)) else .nilIface)
  bl : ∀ i, i < k → RowF wr (w.heap.size + 2 + i) 31 9 (bodyF (s i) 0)
  below : Below w.heap.size w wr

theorem L1.step {w : World} {n : Nat} {s : Nat → ByteArray} {k : Nat} {wr : World} (h : L1 w n s k wr) :
    L1 w n s (k + 1) (((wr.setCell ⟨w.heap.size, k, none⟩ (.pointer (some ⟨wr.heap.size, 0, none⟩))).setCell ⟨w.heap.size + 1, k, none⟩ (.iface 25 (.pointer (some ⟨wr.heap.size, 0, none⟩)))).alloc (.cells #[.string (s k), .int .i64 0, .int .i64 0, .int .i64 0, .int .i64 0, .int .i64 0, .int .i64 0, .int .i64 0, .int .i64 0] 31)) := by
  have hs := h.size
  refine ⟨by simp [World.setCell]; omega, ?_, ?_, ?_, ?_⟩
  · refine (((h.st.set k _).set_other (by simp) _).alloc _).congr fun i hi => ?_
    by_cases e : i = k
    · subst e; simp [hs]
    · simp only [if_neg e]
      have : (i < k) ↔ (i < k + 1) := by omega
      simp only [this]
  · refine (((h.bo.set_other (by simp) _).set k _).alloc _).congr fun i hi => ?_
    by_cases e : i = k
    · subst e; simp [hs]
    · simp only [if_neg e]
      have : (i < k) ↔ (i < k + 1) := by omega
      simp only [this]
  · intro i hi
    by_cases e : i = k
    · subst e
      have := RowF.alloc_new ((wr.setCell ⟨w.heap.size, i, none⟩ (.pointer (some ⟨wr.heap.size, 0, none⟩))).setCell ⟨w.heap.size + 1, i, none⟩ (.iface 25 (.pointer (some ⟨wr.heap.size, 0, none⟩)))) 31 #[.string (s i), .int .i64 0, .int .i64 0, .int .i64 0, .int .i64 0, .int .i64 0, .int .i64 0, .int .i64 0, .int .i64 0] 9 (bodyF (s i) 0) (by simp [List.range, List.range.loop, bodyF])
      have e2 : ((wr.setCell ⟨w.heap.size, i, none⟩ (.pointer (some ⟨wr.heap.size, 0, none⟩))).setCell ⟨w.heap.size + 1, i, none⟩ (.iface 25 (.pointer (some ⟨wr.heap.size, 0, none⟩)))).heap.size = w.heap.size + 2 + i := by simp [World.setCell]; omega
      rw [e2] at this
      exact this
    · exact (((h.bl i (by omega)).set_other (by simp; omega) _).set_other (by simp; omega) _).alloc _
  · exact ((h.below.setCell (Nat.le_refl _) _).setCell (Nat.le_succ _) _).alloc (by simp [World.setCell]; omega) _

/-- WHAT THE SECOND LOOP READS. -/
structure L2 (w : World) (n : Nat) (s : Nat → ByteArray) (m : Nat) (wr : World) : Prop where
  mc : wr.cell? ⟨m, 0, none⟩ = some (.slice (some ⟨w.heap.size + 1, 0, none⟩) n n)
  st : RowF wr w.heap.size 25 n (fun i => .pointer (some ⟨w.heap.size + 2 + i, 0, none⟩))
  bo : RowF wr (w.heap.size + 1) 33 n (fun i => .iface 25 (.pointer (some ⟨w.heap.size + 2 + i, 0, none⟩)))
  bl : ∀ i, i < n → RowF wr (w.heap.size + 2 + i) 31 9 (bodyF (s i) (if i = 0 then 1 else 0))
  below : Below w.heap.size w wr

theorem L2.alloc {w : World} {n : Nat} {s : Nat → ByteArray} {m : Nat} {wr : World} (h : L2 w n s m wr) (o : Obj) : L2 w n s m (wr.alloc o) :=
  ⟨(World.cell?_alloc_lt _ _ _ (World.block_lt_of_cell? _ _ h.mc)).trans h.mc, h.st.alloc o, h.bo.alloc o, fun i hi => (h.bl i hi).alloc o, h.below.alloc (Nat.le_of_lt h.st.lt) o⟩

theorem L2.drewN {w : World} {n : Nat} {s : Nat → ByteArray} {m : Nat} {wr : World} (h : L2 w n s m wr) (q : Nat) : L2 w n s m (wr.drewN q) :=
  ⟨h.mc, h.st, h.bo, h.bl, ⟨h.below.os, h.below.tape, h.below.output, h.below.size, h.below.block⟩⟩

theorem L1.toL2 {w : World} {n : Nat} {s : Nat → ByteArray} {wr : World} (h : L1 w n s n wr) (hn0 : 0 < n) (c1 c2 : Obj) :
    L2 w n s wr.heap.size ((((wr.alloc (.cells #[.slice (some ⟨w.heap.size + 1, 0, none⟩) n n] 36)).setCell ⟨w.heap.size + 2, 7, none⟩ (.int .i64 1)).alloc c1).alloc c2) := by
  have hs := h.size
  refine L2.alloc (L2.alloc ⟨?_, ?_, ?_, ?_, ?_⟩ _) _
  · rw [World.cell?_setCell_other _ _ _ _ (by simp [hs])]; simp
  · exact ((h.st.alloc _).set_other (by simp) _).congr fun i hi => by simp [hi]
  · exact ((h.bo.alloc _).set_other (by simp) _).congr fun i hi => by simp [hi]
  · intro i hi
    by_cases e : i = 0
    · subst e
      refine (((h.bl 0 hn0).alloc _).set 7 (.int .i64 1)).congr fun j hj => ?_
      match j, hj with
      | 0, _ | 1, _ | 2, _ | 3, _ | 4, _ | 5, _ | 6, _ | 7, _ | 8, _ => rfl
    · refine (((h.bl i hi).alloc _).set_other (by simp; omega) _).congr fun j hj => ?_
      simp [e]
  · exact ((h.below.alloc (by omega) _).setCell (by simp) _)

theorem info_parts' {P : Program} {e : TypeId} {z : Value} {sz by' : Nat} (h : (P.info? e).map (fun i => (i.zero, i.size, i.bytes)) = some (some z, sz, by')) : ∃ i, P.info? e = some i ∧ i.zero = some z ∧ i.size = sz ∧ i.bytes = by' := by
  obtain ⟨i, hi, h⟩ := Option.map_eq_some_iff.1 h
  simp only [Prod.mk.injEq] at h
  exact ⟨i, hi, h.1, h.2.1, h.2.2⟩

theorem make25 (n : Nat) (hn : n ≤ 65536) (w : World) : (Instr.makeSlice 23 (.int .i64 n) (.int .i64 n)).run Yba.prog w = .ok (.slice (some ⟨w.heap.size, 0, none⟩) n n) (w.alloc (.cells (madeCells #[.pointer none] n) 25)) := by
  obtain ⟨i, hi, hz, hs, hb⟩ := info_parts' (show (Yba.prog.info? 25).map (fun i => (i.zero, i.size, i.bytes)) = some (some (.pointer none), 1, 8) by kernel_rfl)
  have := run_make (P := Yba.prog) w 23 25 i _ Yba.underlying23 hi hz .i64 .i64 n n (by omega) (Int.le_refl _) (by rw [hb]; omega) (by omega)
  simpa [hs, Value.cells] using this
theorem make33 (n : Nat) (hn : n ≤ 65536) (w : World) : (Instr.makeSlice 24 (.int .i64 n) (.int .i64 n)).run Yba.prog w = .ok (.slice (some ⟨w.heap.size, 0, none⟩) n n) (w.alloc (.cells (madeCells #[.nilIface] n) 33)) := by
  obtain ⟨i, hi, hz, hs, hb⟩ := info_parts' (show (Yba.prog.info? 33).map (fun i => (i.zero, i.size, i.bytes)) = some (some .nilIface, 1, 16) by kernel_rfl)
  have := run_make (P := Yba.prog) w 24 33 i _ Yba.underlying24 hi hz .i64 .i64 n n (by omega) (Int.le_refl _) (by rw [hb]; omega) (by omega)
  simpa [hs, Value.cells] using this

theorem replicate_range (n : Nat) (v : Value) : List.replicate n v = (List.range n).map (fun _ => v) := by
  apply List.ext_getElem <;> simp

theorem L1.start (w : World) (n : Nat) (s : Nat → ByteArray) : L1 w n s 0 ((w.alloc (.cells (madeCells #[.pointer none] n) 25)).alloc (.cells (madeCells #[.nilIface] n) 33)) := by
  refine ⟨by simp, ?_, ?_, fun i hi => absurd hi (by omega), ?_⟩
  · exact ((RowF.alloc_new w 25 _ n (fun _ => .pointer none) (by rw [toList_madeCells_one, replicate_range])).alloc _).congr fun i hi => by simp
  · have := (RowF.alloc_new (w.alloc (.cells (madeCells #[.pointer none] n) 25)) 33 (madeCells #[.nilIface] n) n (fun _ => .nilIface) (by rw [toList_madeCells_one, replicate_range]))
    simp at this
    exact this.congr fun i hi => by simp
  · exact ((Below.refl _ w).alloc (Nat.le_refl _) _).alloc (by simp) _

theorem neq_same (a : Addr) (w : World) : (binOp .neq 33 (.iface 25 (.pointer (some a))) (.iface 25 (.pointer (some a)))).run Yba.prog w = .ok (.bool false) w := by
  obtain ⟨i, hi, hcmp⟩ := Option.map_eq_some_iff.1 (show (Yba.prog.info? 25).map (·.comparable) = some true by kernel_rfl)
  obtain ⟨j, hj, hjs⟩ := Option.map_eq_some_iff.1 (show (Yba.prog.info? 31).map (·.size) = some 9 by kernel_rfl)
  simp only [binOp]
  simp [Op.equal, Op.maxDepth, run_equalIn_iface_ptr_same w 9998 a Yba.underlying33 Yba.underlying25 hi hcmp hj]

end Go.Proofs.Ybulkexnxu
