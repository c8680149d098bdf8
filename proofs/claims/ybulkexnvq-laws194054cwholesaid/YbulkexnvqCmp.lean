/-
  THE LAW's ITEM 17, ITS ELSE-BRANCH PIECE BY PIECE: what Keys gave is compared with what is wanted, then written over.
-/
import Derived.Test.YbulkexnvqStr
import Derived.Test.YbulkexnvqPlain
namespace Go.Proofs.Ybulkexnvq
open Go Go.RowKit

noncomputable def elseT : Nat → Code
  | 0 => elseC (sndC (item 17))
  | k + 1 => sndC (elseT k)
noncomputable def eItem (k : Nat) : Code := fstC (elseT k)

/-- The slots that matter from item 17 on. -/
structure Sl (a : Act) (v0 v1 v15 v16 v27 v28 v33 v34 v35 v36 v37 : Value) : Prop where
  fr : Fr a
  c0 : cell a 0 = v0
  c1 : cell a 1 = v1
  c15 : cell a 15 = v15
  c16 : cell a 16 = v16
  c27 : cell a 27 = v27
  c28 : cell a 28 = v28
  c33 : cell a 33 = v33
  c34 : cell a 34 = v34
  c35 : cell a 35 = v35
  c36 : cell a 36 = v36
  c37 : cell a 37 = v37

def PostE (v0 v1 v15 v16 v27 v28 v33 v34 v35 v36 v37 : Value) (R : World → Prop) (x : Exit) (a' : Act) (w' : World) : Prop := x = .normal ∧ Sl a' v0 v1 v15 v16 v27 v28 v33 v34 v35 v36 v37 ∧ R w'

/-- What Keys gave, in memory: in blocks from Bk to Tk. -/
structure GotAt (gl : List ByteArray) (gb gc : Nat → Nat) (gblk Bk Tk : Nat) (w : World) : Prop where
  each : ∀ (j : Nat) (s : ByteArray), gl[j]? = some s → w.cell? ⟨gblk, j, none⟩ = some (.slice (some ⟨gb j, 0, none⟩) s.size (gc j)) ∧ BytesAt w (gb j) s ∧ Bk ≤ gb j ∧ gb j < Tk ∧ gb j ≠ gblk
  blk : Bk ≤ gblk ∧ gblk < Tk

theorem GotAt.kept {gl : List ByteArray} {gb gc : Nat → Nat} {gblk Bk Tk : Nat} {w w' : World} {X : Nat → Prop} (h : GotAt gl gb gc gblk Bk Tk w) (k : Kept X w w') (hX : ∀ b, Bk ≤ b → b < Tk → ¬ X b) : GotAt gl gb gc gblk Bk Tk w' :=
  ⟨fun j s hj => by
    obtain ⟨h1, h2, h3, h4, h5⟩ := h.each j s hj
    exact ⟨k.cell h1 (hX _ h.blk.1 h.blk.2), h2.kept k (hX _ h3 h4), h3, h4, h5⟩, h.blk⟩

theorem make9 (n : Nat) (hn : n ≤ 65536) (w : World) : (Instr.makeSlice 24 (.int .i64 n) (.int .i64 n)).run Yba.prog w = .ok (.slice (some ⟨w.heap.size, 0, none⟩) n n) (w.alloc (.cells (madeCells #[.string ⟨#[]⟩] n) 9)) := by
  obtain ⟨i, hi, hz, hs, hb⟩ := info_parts' Yba.info9
  have := run_make (P := Yba.prog) w 24 9 i _ Yba.underlying24 hi hz .i64 .i64 n n (by omega) (Int.le_refl _) (by rw [hb]; omega) (by omega)
  simpa [hs, Value.cells] using this

theorem madeCells_row (v : Value) (n : Nat) : madeCells #[v] n = ((List.range n).map (fun _ => v)).toArray := by
  apply Array.toList_inj.1
  rw [toList_madeCells_one]
  apply List.ext_getElem <;> simp

set_option maxRecDepth 100000 in
set_option maxHeartbeats 3200000 in
theorem e0 (nh ns gblk gcap : Nat) (v0 v1 v15 v16 v27 v28 v33 v37 : Value) (w : World) (a : Act) (h : Sl a v0 v1 v15 v16 v27 v28 v33 (.slice (some ⟨gblk, 0, none⟩) (nh + ns) gcap) (.int .i64 nh) (.int .i64 ns) v37) (hn : nh ≤ 4096) (hs : ns ≤ 65536) :
    Code.wp Yba.prog (eItem 0) (PostE v0 v1 v15 v16 v27 v28 v33 (.slice (some ⟨gblk, 0, none⟩) (nh + ns) gcap) (.int .i64 nh) (.int .i64 ns) v37 (fun w' => w' = w)) a w := by
  obtain ⟨fr, c0, c1, c15, c16, c27, c28, c33, c34, c35, c36, c37⟩ := h
  rw [fr.open']
  unfold listF
  rw [c0, c1, c15, c16, c27, c28, c33, c34, c35, c36, c37]
  clear c0 c1 c15 c16 c27 c28 c33 c34 c35 c36 c37 fr
  generalize cell a = f
  clear a
  conv => arg 2; whnf
  go_wp2
  exact ⟨rfl, ⟨⟨rfl, rfl⟩, rfl, rfl, rfl, rfl, rfl, rfl, rfl, rfl, rfl, rfl, rfl⟩, rfl⟩

set_option maxRecDepth 100000 in
set_option maxHeartbeats 3200000 in
theorem e1 (nh ns gblk gcap : Nat) (v0 v1 v15 v16 v27 v28 v33 v37 : Value) (w : World) (a : Act) (h : Sl a v0 v1 v15 v16 v27 v28 v33 (.slice (some ⟨gblk, 0, none⟩) (nh + ns) gcap) (.int .i64 nh) (.int .i64 ns) v37) (hn : nh ≤ 4096) :
    Code.wp Yba.prog (eItem 1) (PostE v0 v1 v15 v16 v27 v28 v33 (.slice (some ⟨gblk, 0, none⟩) (nh + ns) gcap) (.int .i64 nh) (.int .i64 ns) (.slice (some ⟨w.heap.size, 0, none⟩) nh nh) (fun w' => RowF w' w.heap.size 9 nh (fun _ => .string ⟨#[]⟩) ∧ Kept (fun _ => False) w w')) a w := by
  obtain ⟨fr, c0, c1, c15, c16, c27, c28, c33, c34, c35, c36, c37⟩ := h
  rw [fr.open']
  unfold listF
  rw [c0, c1, c15, c16, c27, c28, c33, c34, c35, c36, c37]
  clear c0 c1 c15 c16 c27 c28 c33 c34 c35 c36 c37 fr
  generalize cell a = f
  clear a
  conv => arg 2; whnf
  have mk := make9 nh (by omega)
  go_wp2
  refine ⟨rfl, ⟨⟨rfl, rfl⟩, rfl, rfl, rfl, rfl, rfl, rfl, rfl, rfl, rfl, rfl, rfl⟩, ?_, (Kept.refl _ _).alloc _⟩
  rw [madeCells_row]
  exact RowF.alloc_new _ _ _ _ _ rfl

set_option maxRecDepth 100000 in
set_option maxHeartbeats 3200000 in
theorem e2 (nh ns gblk gcap g1 Bk Tk : Nat) (gl : List ByteArray) (gb gc : Nat → Nat) (v0 v1 v15 v16 v27 v28 v33 : Value) (w : World) (a : Act) (h : Sl a v0 v1 v15 v16 v27 v28 v33 (.slice (some ⟨gblk, 0, none⟩) (nh + ns) gcap) (.int .i64 nh) (.int .i64 ns) (.slice (some ⟨g1, 0, none⟩) nh nh)) (hn : nh ≤ 4096) (hs : ns ≤ 65536) (hl : gl.length = nh + ns) (hg : GotAt gl gb gc gblk Bk Tk w) (hr : RowF w g1 9 nh (fun _ => .string ⟨#[]⟩)) (hgT : Tk ≤ g1) :
    Code.wp Yba.prog (eItem 2) (PostE v0 v1 v15 v16 v27 v28 v33 (.slice (some ⟨gblk, 0, none⟩) (nh + ns) gcap) (.int .i64 nh) (.int .i64 ns) (.slice (some ⟨g1, 0, none⟩) nh nh) (fun w' => RowF w' g1 9 nh (fun i => .string (gl.getD i ByteArray.empty)) ∧ Kept (· = g1) w w')) a w := by
  obtain ⟨fr, c0, c1, c15, c16, c27, c28, c33, c34, c35, c36, c37⟩ := h
  rw [fr.open']
  unfold listF
  rw [c0, c1, c15, c16, c27, c28, c33, c34, c35, c36, c37]
  clear c0 c1 c15 c16 c27 c28 c33 c34 c35 c36 c37 fr
  generalize cell a = f
  clear a
  conv => arg 2; whnf
  have HG := mkHid hg
  have HR := mkHid hr
  clear hg hr
  go_wp2
  go_loopg [38] nh (fun g ix wr => ∃ k : Nat, k + g = nh ∧ ix = .int .i64 k ∧ RowF wr g1 9 nh (fun i => if i < k then .string (gl.getD i ByteArray.empty) else .string ⟨#[]⟩) ∧ Kept (· = g1) w wr)
  case atStart => exact ⟨0, by omega, rfl, HR.out.congr fun i _ => by simp, Kept.refl _ _⟩
  case round =>
    obtain ⟨k, hk, rfl, hr, hkp⟩ := hrel
    have HK := mkHid hkp
    have HR2 := mkHid hr
    clear hkp hr
    by_cases hlt : k < nh
    · have HG2 := HG.out.kept HK.out (fun b h1 h2 e => by omega)
      have hs : gl[k]? = some (gl.getD k ByteArray.empty) := by simp [List.getD, List.getElem?_eq_getElem (show k < gl.length by omega)]
      obtain ⟨q0, q1, q2, q3, q4⟩ := HG2.each k _ hs
      have cv := conv_back wr _ _ (gc k) q1
      have z0 := HR2.out.cell hlt
      have z1 := HR2.out.frozen k
      have z2 := HR2.out.lt
      clear q1 HG2 hs
      generalize hx : gl.getD k ByteArray.empty = x at *
      have HX := mkHid hx
      clear hx
      go_wp2
      go_roundg (gk - 1)
      case measure => omega
      case rel =>
        refine ⟨k + 1, by omega, by go_num, (HR2.out.set k (.string x)).congr fun i hi => ?_, HK.out.setCell (p := ⟨g1, k, none⟩) (.inl rfl) _⟩
        by_cases e : i = k
        · subst e
          rw [if_pos rfl, if_pos (by omega), HX.out]
        · simp only [if_neg e]
          by_cases e2 : i < k
          · rw [if_pos e2, if_pos (by omega)]
          · rw [if_neg e2, if_neg (by omega)]
    · obtain rfl : k = nh := by omega
      go_wp2
      exact ⟨rfl, ⟨⟨rfl, rfl⟩, rfl, rfl, rfl, rfl, rfl, rfl, rfl, rfl, rfl, rfl, rfl⟩, HR2.out.congr fun i hi => by rw [if_pos hi], HK.out⟩

set_option maxRecDepth 100000 in
set_option maxHeartbeats 3200000 in
theorem e3 (nh g1 : Nat) (xs : List ByteArray) (v0 v1 v15 v16 v27 v28 v33 v34 v35 v36 : Value) (w : World) (a : Act) (h : Sl a v0 v1 v15 v16 v27 v28 v33 v34 v35 v36 (.slice (some ⟨g1, 0, none⟩) nh nh)) (hn : nh ≤ 4096) (hl : xs.length = nh) (hr : StrRow w g1 xs) :
    Code.wp Yba.prog (eItem 3) (PostE v0 v1 v15 v16 v27 v28 v33 v34 v35 v36 (.slice (some ⟨g1, 0, none⟩) nh nh) (fun w' => StrRow w' g1 (sorted xs) ∧ Kept (· = g1) w w')) a w := by
  obtain ⟨fr, c0, c1, c15, c16, c27, c28, c33, c34, c35, c36, c37⟩ := h
  rw [fr.open']
  unfold listF
  rw [c0, c1, c15, c16, c27, c28, c33, c34, c35, c36, c37]
  clear c0 c1 c15 c16 c27 c28 c33 c34 c35 c36 c37 fr
  generalize cell a = f
  clear a
  conv => arg 2; whnf
  subst hl
  have HR := mkHid hr
  clear hr
  go_wp2_with (first | (go_at_call 6; refine (sort_row g1 _ xs _ HR.out (by omega)).mono ?_; rintro e w1 ⟨rfl, h1, h2⟩; have H1 := mkHid h1; have H2 := mkHid h2; clear h1 h2) | go_in)
  exact ⟨rfl, ⟨⟨rfl, rfl⟩, rfl, rfl, rfl, rfl, rfl, rfl, rfl, rfl, rfl, rfl, rfl⟩, H1.out, H2.out⟩

set_option maxRecDepth 100000 in
set_option maxHeartbeats 3200000 in
theorem e4 (nh hwb hcap : Nat) (hwo : Option Addr) (ys : List ByteArray) (v0 v1 v15 v16 v28 v33 v34 v35 v36 v37 : Value) (w : World) (a : Act) (h : Sl a v0 v1 v15 v16 (.slice hwo nh hcap) v28 v33 v34 v35 v36 v37) (hn : nh ≤ 4096) (hl : ys.length = nh) (h0 : 0 < nh → hwo = some ⟨hwb, 0, none⟩ ∧ StrRow w hwb ys) :
    Code.wp Yba.prog (eItem 4) (PostE v0 v1 v15 v16 (.slice hwo nh hcap) v28 v33 v34 v35 v36 v37 (fun w' => (0 < nh → StrRow w' hwb (sorted ys)) ∧ Kept (fun b => 0 < nh ∧ b = hwb) w w')) a w := by
  obtain ⟨fr, c0, c1, c15, c16, c27, c28, c33, c34, c35, c36, c37⟩ := h
  rw [fr.open']
  unfold listF
  rw [c0, c1, c15, c16, c27, c28, c33, c34, c35, c36, c37]
  clear c0 c1 c15 c16 c27 c28 c33 c34 c35 c36 c37 fr
  generalize cell a = f
  clear a
  conv => arg 2; whnf
  subst hl
  by_cases hp : 0 < ys.length
  · obtain ⟨rfl, hr⟩ := h0 hp
    have HR := mkHid hr
    clear hr h0
    go_wp2_with (first | (go_at_call 6; refine (sort_row hwb _ ys _ HR.out (by omega)).mono ?_; rintro e w1 ⟨rfl, h1, h2⟩; have H1 := mkHid h1; have H2 := mkHid h2; clear h1 h2) | go_in)
    exact ⟨rfl, ⟨⟨rfl, rfl⟩, rfl, rfl, rfl, rfl, rfl, rfl, rfl, rfl, rfl, rfl, rfl⟩, fun _ => H1.out, H2.out.weaken fun b _ hb => ⟨hp, hb⟩⟩
  · have hz : ys.length = 0 := by omega
    rw [hz]
    clear h0 hp
    go_wp2_with (first | (go_at_call 6; refine (Yba.slices_Sort_string_none _ _ _).mono ?_; rintro e w1 ⟨rfl, rfl⟩) | go_in)
    exact ⟨rfl, ⟨⟨rfl, rfl⟩, rfl, rfl, rfl, rfl, rfl, rfl, rfl, rfl, rfl, rfl, rfl⟩, fun h => by omega, Kept.refl _ _⟩

set_option maxRecDepth 100000 in
set_option maxHeartbeats 3200000 in
theorem e5 (nh g1 hwb hcap : Nat) (hwo : Option Addr) (zs : List ByteArray) (v0 v1 v15 v16 v28 v33 v34 v35 v36 : Value) (w : World) (a : Act) (h : Sl a v0 v1 v15 v16 (.slice hwo nh hcap) v28 v33 v34 v35 v36 (.slice (some ⟨g1, 0, none⟩) nh nh)) (hn : nh ≤ 4096) (hl : zs.length = nh) (h0 : 0 < nh → hwo = some ⟨hwb, 0, none⟩ ∧ StrRow w hwb zs) (hr : StrRow w g1 zs) :
    Code.wp Yba.prog (eItem 5) (PostE v0 v1 v15 v16 (.slice hwo nh hcap) v28 v33 v34 v35 v36 (.slice (some ⟨g1, 0, none⟩) nh nh) (fun w' => Kept (fun _ => False) w w')) a w := by
  obtain ⟨fr, c0, c1, c15, c16, c27, c28, c33, c34, c35, c36, c37⟩ := h
  rw [fr.open']
  unfold listF
  rw [c0, c1, c15, c16, c27, c28, c33, c34, c35, c36, c37]
  clear c0 c1 c15 c16 c27 c28 c33 c34 c35 c36 c37 fr
  generalize cell a = f
  clear a
  conv => arg 2; whnf
  subst hl
  by_cases hp : 0 < zs.length
  · obtain ⟨rfl, hr2⟩ := h0 hp
    have HR := mkHid hr
    have HR2 := mkHid hr2
    clear hr h0 hr2
    go_wp2_with (first | (go_at_call 7; refine (equal_rows g1 hwb _ _ zs _ HR.out HR2.out (by omega)).mono ?_; rintro e w1 ⟨rfl, q, rfl⟩) | go_in)
    exact ⟨rfl, ⟨⟨rfl, rfl⟩, rfl, rfl, rfl, rfl, rfl, rfl, rfl, rfl, rfl, rfl, rfl⟩, (Kept.refl _ _).drewN _⟩
  · have hz : zs.length = 0 := by omega
    rw [hz]
    clear h0 hp hr
    go_wp2_with (first | (go_at_call 7; refine (Yba.slices_Equal_string_empty _ _ _ 0 _ _ (by decide)).mono ?_; rintro e w1 ⟨rfl, rfl⟩) | go_in)
    exact ⟨rfl, ⟨⟨rfl, rfl⟩, rfl, rfl, rfl, rfl, rfl, rfl, rfl, rfl, rfl, rfl, rfl⟩, Kept.refl _ _⟩


/-- The bytes that Keys gave, whatever they are by now. -/
structure GotW (gl : List ByteArray) (gb gc : Nat → Nat) (gblk Bk Tk : Nat) (w : World) : Prop where
  each : ∀ (j : Nat) (s : ByteArray), gl[j]? = some s → w.cell? ⟨gblk, j, none⟩ = some (.slice (some ⟨gb j, 0, none⟩) s.size (gc j)) ∧ (∀ i, i < s.size → (∃ z, w.cell? ⟨gb j, i, none⟩ = some (.int .u8 z)) ∧ w.frozen? ⟨gb j, i, none⟩ = false) ∧ Bk ≤ gb j ∧ gb j < Tk ∧ gb j ≠ gblk
  blk : Bk ≤ gblk ∧ gblk < Tk

theorem GotAt.weak {gl : List ByteArray} {gb gc : Nat → Nat} {gblk Bk Tk : Nat} {w : World} (h : GotAt gl gb gc gblk Bk Tk w) : GotW gl gb gc gblk Bk Tk w :=
  ⟨fun j s hj => by
    obtain ⟨h1, h2, h3⟩ := h.each j s hj
    refine ⟨h1, fun i hi => ?_, h3⟩
    have hi' : i < s.data.toList.length := by rw [size_list]; exact hi
    exact ⟨⟨_, (h2 i hi').1⟩, (h2 i hi').2⟩, h.blk⟩

theorem GotW.set {gl : List ByteArray} {gb gc : Nat → Nat} {gblk Bk Tk : Nat} {w : World} (h : GotW gl gb gc gblk Bk Tk w) {j0 i0 : Nat} {s0 : ByteArray} (hj : gl[j0]? = some s0) (hi : i0 < s0.size) (z : Int) : GotW gl gb gc gblk Bk Tk (w.setCell ⟨gb j0, i0, none⟩ (.int .u8 z)) := by
  obtain ⟨_, g2, _, _, g5⟩ := h.each j0 s0 hj
  obtain ⟨⟨z0, hz0⟩, _⟩ := g2 i0 hi
  refine ⟨fun j s hj' => ?_, h.blk⟩
  obtain ⟨h1, h2, h3⟩ := h.each j s hj'
  refine ⟨(World.cell?_setCell_other _ ⟨gb j0, i0, none⟩ ⟨gblk, j, none⟩ _ (fun e => g5 (congrArg Addr.block e))).trans h1, fun i hi' => ?_, h3⟩
  obtain ⟨⟨z1, hz1⟩, hf⟩ := h2 i hi'
  refine ⟨?_, by simpa using hf⟩
  by_cases e : (⟨gb j0, i0, none⟩ : Addr) = ⟨gb j, i, none⟩
  · rw [← e]
    exact ⟨z, World.cell?_setCell_same _ ⟨gb j0, i0, none⟩ _ hz0⟩
  · exact ⟨z1, (World.cell?_setCell_other _ ⟨gb j0, i0, none⟩ ⟨gb j, i, none⟩ _ e).trans hz1⟩

set_option maxRecDepth 100000 in
set_option maxHeartbeats 3200000 in
theorem e6 (nh ns gblk gcap swb scap Bk Tk : Nat) (swo : Option Addr) (gl sw : List ByteArray) (gb gc : Nat → Nat) (v0 v1 v15 v27 v28 v33 v37 : Value) (w : World) (a : Act) (h : Sl a v0 v1 v15 (.slice swo ns scap) v27 v28 v33 (.slice (some ⟨gblk, 0, none⟩) (nh + ns) gcap) (.int .i64 nh) (.int .i64 ns) v37) (hn : nh ≤ 4096) (hs : ns ≤ 65536) (hl : sw.length = ns) (hgs : ∀ (j : Nat) (s : ByteArray), sw[j]? = some s → gl[nh + j]? = some s) (hg : GotAt gl gb gc gblk Bk Tk w) (h0 : 0 < ns → swo = some ⟨swb, 0, none⟩ ∧ StrRow w swb sw) :
    Code.wp Yba.prog (eItem 6) (PostE v0 v1 v15 (.slice swo ns scap) v27 v28 v33 (.slice (some ⟨gblk, 0, none⟩) (nh + ns) gcap) (.int .i64 nh) (.int .i64 ns) v37 (fun w' => Kept (fun _ => False) w w')) a w := by
  obtain ⟨fr, c0, c1, c15, c16, c27, c28, c33, c34, c35, c36, c37⟩ := h
  rw [fr.open']
  unfold listF
  rw [c0, c1, c15, c16, c27, c28, c33, c34, c35, c36, c37]
  clear c0 c1 c15 c16 c27 c28 c33 c34 c35 c36 c37 fr
  generalize cell a = f
  clear a
  conv => arg 2; whnf
  have HG := mkHid hg
  have HGS := mkHid hgs
  clear hg hgs
  go_wp2
  go_loopg [39] ns (fun g ix wr => ∃ k : Nat, k + g = ns ∧ ix = .int .i64 k ∧ Kept (fun _ => False) w wr)
  case atStart => exact ⟨0, by omega, rfl, Kept.refl _ _⟩
  case round =>
    obtain ⟨k, hk, rfl, hkp⟩ := hrel
    have HK := mkHid hkp
    clear hkp
    by_cases hlt : k < ns
    · obtain ⟨rfl, hsr⟩ := h0 (by omega)
      have hsk : sw[k]? = some (sw.getD k ByteArray.empty) := by simp [List.getD, List.getElem?_eq_getElem (show k < sw.length by omega)]
      generalize sw.getD k ByteArray.empty = x at hsk
      obtain ⟨q0, q1, _⟩ := (HG.out.kept HK.out (fun _ _ _ h => h)).each _ _ (HGS.out k x hsk)
      have z0 := (hsr.kept HK.out (fun h => h)).cell hsk
      have cv : ∀ q, (convert 35 9 (.slice (some ⟨gb (nh + k), 0, none⟩) x.size (gc (nh + k)))).run Yba.prog (wr.drewN q) = .ok (.string x) (wr.drewN q) := fun q => conv_back _ _ _ _ (fun j hj => q1 j hj)
      have cv0 := conv_back wr _ _ (gc (nh + k)) q1
      have hne := beq_eq (rfl : x = x)
      obtain ⟨p, hp⟩ : ∃ p, p = nh + k := ⟨_, rfl⟩
      have hp' : (nh : Int) + (k : Int) = (p : Int) := by omega
      have hpl : p < nh + ns := by omega
      rw [← hp] at q0 cv cv0
      have HP := mkHid hp
      clear hp q1 hsk hsr h0
      go_wp2
      go_quiet (fail)
      go_wp2
      go_roundg (gk - 1)
      case measure => omega
      case rel => exact ⟨k + 1, by omega, by go_num, HK.out.drewN _⟩
    · go_wp2
      exact ⟨rfl, ⟨⟨rfl, rfl⟩, rfl, rfl, rfl, rfl, rfl, rfl, rfl, rfl, rfl, rfl, rfl⟩, HK.out⟩

set_option maxRecDepth 100000 in
set_option maxHeartbeats 3200000 in
theorem e7 (nh ns gblk gcap Bk Tk : Nat) (gl : List ByteArray) (gb gc : Nat → Nat) (v0 v1 v15 v16 v27 v28 v33 v37 : Value) (w : World) (a : Act) (h : Sl a v0 v1 v15 v16 v27 v28 v33 (.slice (some ⟨gblk, 0, none⟩) (nh + ns) gcap) (.int .i64 nh) (.int .i64 ns) v37) (hn : nh ≤ 4096) (hs : ns ≤ 65536) (hl : gl.length = nh + ns) (hg : GotW gl gb gc gblk Bk Tk w) (hsz : ∀ (j : Nat) (s : ByteArray), gl[j]? = some s → s.size ≤ 140737488355328) :
    Code.wp Yba.prog (elseT 7) (PostE v0 v1 v15 v16 v27 v28 v33 (.slice (some ⟨gblk, 0, none⟩) (nh + ns) gcap) (.int .i64 nh) (.int .i64 ns) v37 (fun w' => Kept (fun b => Bk ≤ b) w w')) a w := by
  obtain ⟨fr, c0, c1, c15, c16, c27, c28, c33, c34, c35, c36, c37⟩ := h
  rw [fr.open']
  unfold listF
  rw [c0, c1, c15, c16, c27, c28, c33, c34, c35, c36, c37]
  clear c0 c1 c15 c16 c27 c28 c33 c34 c35 c36 c37 fr
  generalize cell a = f
  clear a
  conv => arg 2; whnf
  have HG := mkHid hg
  have HSZ := mkHid hsz
  clear hg hsz
  go_wp2
  go_loopg [40] ns (fun g ix wr => ∃ k : Nat, nh ≤ k ∧ k + g = nh + ns ∧ ix = .int .i64 k ∧ GotW gl gb gc gblk Bk Tk wr ∧ Kept (fun b => Bk ≤ b) w wr)
  case atStart => exact ⟨nh, by omega, by omega, rfl, HG.out, Kept.refl _ _⟩
  case round =>
    obtain ⟨k, hk0, hk, rfl, hg2, hkp⟩ := hrel
    have HK := mkHid hkp
    have HG2 := mkHid hg2
    clear hkp hg2
    by_cases hlt : k < nh + ns
    · have hsk : gl[k]? = some (gl.getD k ByteArray.empty) := by simp [List.getD, List.getElem?_eq_getElem (show k < gl.length by omega)]
      generalize gl.getD k ByteArray.empty = x at hsk
      obtain ⟨q0, _, q2, q3, q4⟩ := HG2.out.each k x hsk
      have hxs := HSZ.out k x hsk
      have hlt' : (k : Int) < (nh : Int) + (ns : Int) := by omega
      have HSK := mkHid hsk
      clear hsk
      go_wp2
      clear q0
      obtain ⟨G, hG⟩ : ∃ G, G = gk := ⟨_, rfl⟩
      subst hG
      go_loopg [272] x.size (fun g ix wy => ∃ i : Nat, i + g = x.size ∧ ix = .int .i64 i ∧ GotW gl gb gc gblk Bk Tk wy ∧ Kept (fun b => Bk ≤ b) w wy)
      case atStart => exact ⟨0, by omega, rfl, HG2.out, HK.out⟩
      case round =>
        clear HG2 HK
        obtain ⟨i, hi, rfl, hg3, hk3⟩ := hrel
        have HG3 := mkHid hg3
        have HK3 := mkHid hk3
        clear hg3 hk3
        by_cases hil : i < x.size
        · obtain ⟨⟨z, hz⟩, hf⟩ := (HG3.out.each k x HSK.out).2.1 i hil
          have hzl := World.block_lt_of_cell? _ _ hz
          go_wp2
          go_roundg (gk - 1)
          case measure => omega
          case rel => exact ⟨i + 1, by omega, by go_num, HG3.out.set HSK.out hil _, HK3.out.setCell (p := ⟨gb k, i, none⟩) (.inl q2) _⟩
        · go_wp2
          go_roundg (G - 1)
          case measure => omega
          case rel => exact ⟨k + 1, by omega, by omega, by go_num, HG3.out, HK3.out⟩
    · go_wp2
      exact ⟨rfl, ⟨⟨rfl, rfl⟩, rfl, rfl, rfl, rfl, rfl, rfl, rfl, rfl, rfl, rfl, rfl⟩, HK.out⟩

end Go.Proofs.Ybulkexnvq
