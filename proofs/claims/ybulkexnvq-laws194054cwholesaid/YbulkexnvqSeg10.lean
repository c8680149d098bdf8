/-
  THE LAW's ITEM 10: the sets are laid.
-/
import Derived.Test.YbulkexnvqBuilt
import Derived.Test.YbulkexnvqCmp
namespace Go.Proofs.Ybulkexnvq
open Go Go.RowKit

def d0 (I : Inp) : SetsD := dOf I (fun _ => 0) (fun _ => 0) (fun _ _ => 0) (fun _ _ => 0)
def wantS (I : Inp) (k : Nat) : List ByteArray := if I.mode = 2 then upTo (d0 I) k else []

theorem upTo_dOf (I : Inp) (st kb : Nat → Nat) (bb bc : Nat → Nat → Nat) : ∀ k, upTo (dOf I st kb bb bc) k = upTo (d0 I) k
  | 0 => rfl
  | k + 1 => by simp only [upTo]; rw [upTo_dOf I st kb bb bc k]; rfl

def Post10 (I : Inp) (v0 v1 v10 v11 : Value) (w : World) (x : Exit) (a' : Act) (w' : World) : Prop :=
  x = .normal ∧ Fr a' ∧ (cell a' 0 = v0 ∧ cell a' 1 = v1 ∧ cell a' 10 = v10 ∧ cell a' 11 = v11) ∧
  ∃ st kb bb bc, Built (dOf I st kb bb bc) I.m I.m I.m w w' (cell a' 14) (cell a' 15) (cell a' 16) (wantS I I.m)

theorem make35 (n : Nat) (hn : n ≤ 65536) (w : World) : (Instr.makeSlice 34 (.int .i64 n) (.int .i64 n)).run Yba.prog w = .ok (.slice (some ⟨w.heap.size, 0, none⟩) n n) (w.alloc (.cells (madeCells #[.slice none 0 0] n) 35)) := by
  obtain ⟨i, hi, hz, hs, hb⟩ := info_parts' Yba.info35
  have := run_make (P := Yba.prog) w 34 35 i _ Yba.underlying34 hi hz .i64 .i64 n n (by omega) (Int.le_refl _) (by rw [hb]; omega) (by omega)
  simpa [hs, Value.cells] using this

theorem BytesAt.new' (w : World) (s : ByteArray) (cap N : Nat) (hN : w.heap.size = N) : BytesAt (w.alloc (.cells (bytesRow s cap) 5 ((bytesRow s cap).size, (bytesRow s cap).size + 1))).drew N s := by
  subst hN
  exact BytesAt.new w s cap

theorem news_three (w : World) (x y z : Value) (t : TypeId) (H : Nat) (hH : H = w.heap.size) : ∀ (j : Nat) (u : Value), ([x, y, z] : List Value)[j]? = some u → (w.alloc (.cells #[x, y, z] t)).cell? ((⟨H, 0, none⟩ : Addr).add j) = some u := by
  intro j u hu
  rw [Go.WideShapes.add_plain, Nat.zero_add, World.cell?_alloc_at (n := H) (hn := hH)]
  simpa using hu

/-- The cells of a set. -/
def setF (ka : Option Addr) (n c : Nat) (lo hi : Int) : Nat → Value
  | 0 => .slice ka n c
  | 1 => .int .i64 lo
  | _ => .int .i64 hi

/-- The stand of set k: its row of keys Kb is laid; the stand itself and a slice of one pointer to it are new. -/
theorem Built.next {I : Inp} {st kb : Nat → Nat} {bb bc : Nat → Nat → Nat} {k : Nat} {w wr : World} {u14 u15 u16 : Value} {sw : List ByteArray} (h : Built (dOf I st kb bb bc) k k k w wr u14 u15 u16 sw) (Kb : Nat) (bbk bck : Nat → Nat)
    (hr : RowF wr Kb 35 (I.kn k) (fun i => .slice (some ⟨bbk i, 0, none⟩) (I.S k i).size (bck i))) (hb : ∀ i, i < I.kn k → Kb < bbk i ∧ bbk i < wr.heap.size ∧ BytesAt wr (bbk i) (I.S k i))
    (h15 : ∀ g, u15.ownBlock = some g → g < Kb) (h14 : ∀ g, u14.ownBlock = some g → g < Kb) (h16 : ∀ g, u16.ownBlock = some g → g < Kb) :
    ∃ (st' kb' : Nat → Nat) (bb' bc' : Nat → Nat → Nat), st' k = wr.heap.size ∧ Built (dOf I st' kb' bb' bc') (k + 1) k k w ((wr.alloc (.cells #[.slice (some ⟨Kb, 0, none⟩) (I.kn k) (I.kn k)] 38)).alloc (.cells #[.pointer (some ⟨wr.heap.size, 0, none⟩)] 36)) u14 u15 u16 sw := by
  have hKl := hr.lt
  have ks : Kept (fun _ => False) wr ((wr.alloc (.cells #[.slice (some ⟨Kb, 0, none⟩) (I.kn k) (I.kn k)] 38)).alloc (.cells #[.pointer (some ⟨wr.heap.size, 0, none⟩)] 36)) := ((Kept.refl _ _).alloc _).alloc _
  have hsz : ((wr.alloc (.cells #[.slice (some ⟨Kb, 0, none⟩) (I.kn k) (I.kn k)] 38)).alloc (.cells #[.pointer (some ⟨wr.heap.size, 0, none⟩)] 36)).heap.size = wr.heap.size + 1 + 1 := by simp
  refine ⟨fun x => if x = k then wr.heap.size else st x, fun x => if x = k then Kb else kb x, fun x => if x = k then bbk else bb x, fun x => if x = k then bck else bc x, if_pos rfl, ?_⟩
  have h1 := (h.congr (st' := fun x => if x = k then wr.heap.size else st x) (kb' := fun x => if x = k then Kb else kb x) (bb' := fun x => if x = k then bbk else bb x) (bc' := fun x => if x = k then bck else bc x) (fun x hx => if_neg (by omega)) (fun x hx => if_neg (by omega)) (fun x hx => if_neg (by omega)) (fun x hx => if_neg (by omega))).step ks
  refine h1.stand ?_ ?_ ?_ ?_
  · simp only [dOf, if_true]
    refine ⟨by rw [hsz]; omega, ?_⟩
    have := (RowF.alloc_new wr 38 #[.slice (some ⟨Kb, 0, none⟩) (I.kn k) (I.kn k)] 1 (fun _ => .slice (some ⟨Kb, 0, none⟩) (I.kn k) (I.kn k)) (by simp [List.range, List.range.loop])).alloc (.cells #[.pointer (some ⟨wr.heap.size, 0, none⟩)] 36)
    exact this.cell (i := 0) (by decide)
  · intro i hi
    simp only [dOf, if_true] at hi ⊢
    exact ⟨by rw [hsz]; omega, (hr.kept ks (fun h => h)).cell hi⟩
  · intro i hi
    simp only [dOf, if_true] at hi ⊢
    obtain ⟨q1, q2, q3⟩ := hb i hi
    exact ⟨by rw [hsz]; omega, q3.kept ks (fun h => h)⟩
  · intro b hbb
    simp only [dOf, if_true] at hbb
    have hge : Kb ≤ b := by
      rcases hbb with rfl | ⟨i, hi, rfl | rfl⟩
      · omega
      · exact Nat.le_refl _
      · exact Nat.le_of_lt (hb i hi).1
    exact ⟨fun e => by have := h15 b e; omega, fun e => by have := h14 b e; omega, fun e => by have := h16 b e; omega⟩

set_option maxRecDepth 100000 in
set_option maxHeartbeats 6400000 in
theorem seg10 (I : Inp) (v0 v11 : Value) (w0 w : World) (a : Act) (fr : Fr a) (c0 : cell a 0 = v0) (c1 : cell a 1 = .slice I.sa I.m I.sc) (c10 : cell a 10 = .int .u8 I.mode) (c11 : cell a 11 = v11)
    (c14 : cell a 14 = .slice none 0 0) (c15 : cell a 15 = .slice none 0 0) (c16 : cell a 16 = .slice none 0 0) (hin : InAt I w0) (hbl : Below w0.heap.size w0 w) (hm4 : I.m ≤ 4096) (htot : tot I.kn I.m ≤ 65536) :
    Code.wp Yba.prog (item 10) (Post10 I v0 (.slice I.sa I.m I.sc) (.int .u8 I.mode) v11 w) a w := by
  rw [fr.open']
  unfold listF
  rw [c0, c1, c10, c11, c14, c15, c16]
  clear c0 c1 c10 c11 c14 c15 c16 fr
  generalize cell a = f
  clear a
  conv => arg 2; whnf
  have HIN := mkHid hin
  have HBL := mkHid hbl
  have HT := mkHid htot
  clear hin hbl htot
  generalize hsa : I.sa = sa
  have HSA := mkHid hsa
  clear hsa
  generalize hmd : ((I.mode : Nat) : Int) = md
  have HMD := mkHid hmd
  clear hmd
  go_wp2
  go_loopg [95, 14, 15, 16] I.m (fun g ix x14 x15 x16 wr => ∃ (k : Nat) (st kb : Nat → Nat) (bb bc : Nat → Nat → Nat), k + g = I.m ∧ ix = .int .i64 k ∧ Built (dOf I st kb bb bc) k k k w wr x14 x15 x16 (wantS I k))
  case atStart => exact ⟨0, fun _ => 0, fun _ => 0, fun _ _ => 0, fun _ _ => 0, by omega, rfl, by have h : wantS I 0 = [] := (by unfold wantS; split <;> rfl); rw [h]; exact Built.start (d0 I) w⟩
  case round =>
    obtain ⟨k, st, kb, bb, bc, hk, rfl, hbt⟩ := hrel
    have HB := mkHid hbt
    clear hbt
    by_cases hlt : k < I.m
    · have HI := mkHid (HIN.out.below (Below.kept' HBL.out HB.out.kept (fun _ _ h => h) (Nat.le_refl _)))
      obtain ⟨b, off, hsa, q0, q1, q2⟩ := HI.out.sets k hlt
      obtain rfl := HSA.out.symm.trans hsa
      have l1 := World.block_lt_of_cell? _ _ q0
      have hkn : I.kn k ≤ 65536 := by
        have h2 := tot_le I.kn (show k + 1 ≤ I.m by omega)
        have := HT.out
        simp only [tot] at h2
        omega
      simp only at l1
      clear hsa
      generalize hka : I.ka k = kak at q0
      have HKA := mkHid hka
      clear hka
      have mk := make35 (I.kn k) hkn
      go_wp2_with (first | (go_at_call 4; refine (clamp_any _ _ _).mono ?_; rintro e w' ⟨rfl, rfl⟩) | go_in)
      clear q0 q1 q2 mk
      obtain ⟨G, hG⟩ : ∃ G, G = gk := ⟨_, rfl⟩
      subst hG
      obtain ⟨wa, hwa⟩ : ∃ x, x = wr := ⟨_, rfl⟩
      subst hwa
      have HKA0 := mkHid (((Kept.refl (fun _ => False) wa).alloc (.cells #[.slice kak (I.kn k) (I.kc k), .int .i64 (I.Lo k), .int .i64 (I.Hi k)] 26)).alloc (.cells (madeCells #[.slice none 0 0] (I.kn k)) 35))
      have HRP := mkHid ((RowF.alloc_new wa 26 #[.slice kak (I.kn k) (I.kc k), .int .i64 (I.Lo k), .int .i64 (I.Hi k)] 3 (setF kak (I.kn k) (I.kc k) (I.Lo k) (I.Hi k)) (by simp [List.range, List.range.loop, setF])).alloc (.cells (madeCells #[.slice none 0 0] (I.kn k)) 35))
      have HRK : Hid (RowF ((wa.alloc (.cells #[.slice kak (I.kn k) (I.kc k), .int .i64 (I.Lo k), .int .i64 (I.Hi k)] 26)).alloc (.cells (madeCells #[.slice none 0 0] (I.kn k)) 35)) (wa.heap.size + 1) 35 (I.kn k) (fun _ => .slice none 0 0)) := mkHid (by
        have := RowF.alloc_new (wa.alloc (.cells #[.slice kak (I.kn k) (I.kc k), .int .i64 (I.Lo k), .int .i64 (I.Hi k)] 26)) 35 (madeCells #[.slice none 0 0] (I.kn k)) (I.kn k) (fun _ => .slice none 0 0) (by rw [madeCells_row])
        rw [World.size_alloc] at this
        exact this)
      go_loopg [115] (I.kn k) (fun g ix wy => ∃ (j : Nat) (bbk bck : Nat → Nat), j + g = I.kn k ∧ ix = .int .i64 j ∧ Kept (fun _ => False) wa wy ∧ RowF wy wa.heap.size 26 3 (setF kak (I.kn k) (I.kc k) (I.Lo k) (I.Hi k)) ∧
        RowF wy (wa.heap.size + 1) 35 (I.kn k) (fun i => if i < j then .slice (some ⟨bbk i, 0, none⟩) (I.S k i).size (bck i) else .slice none 0 0) ∧ ∀ i, i < j → wa.heap.size + 1 < bbk i ∧ bbk i < wy.heap.size ∧ BytesAt wy (bbk i) (I.S k i))
      case atStart => exact ⟨0, fun _ => 0, fun _ => 0, by omega, rfl, HKA0.out, HRP.out, HRK.out.congr fun i _ => by simp, fun i hi => by omega⟩
      case round =>
        obtain ⟨j, bbk, bck, hj, rfl, hk2, hrp, hrk, hbb⟩ := hrel
        have HK2 := mkHid hk2
        have HRP2 := mkHid hrp
        have HRK2 := mkHid hrk
        have HBB := mkHid hbb
        have lP := hrk.lt
        clear hk2 hrp hrk hbb HKA0 HRP HRK
        by_cases hjl : j < I.kn k
        · obtain ⟨b', off', hka, q0⟩ := (HIN.out.below (Below.kept' HBL.out (HB.out.kept.trans HK2.out) (fun _ _ h => h) (Nat.le_refl _))).keys k hlt j hjl
          obtain rfl := HKA.out.symm.trans hka
          have z0 := HRK2.out.cell hjl
          have z1 := HRK2.out.frozen j
          have cv := conv_str
          clear hka
          go_wp2
          have kx := mkHid (((Kept.refl (fun b => b = wa.heap.size + 1) wr).setCell (p := ⟨wa.heap.size + 1, j, none⟩) (.inl rfl) (.slice (some ⟨wr.heap.size, 0, none⟩) (I.S k j).size (grownCap wr (I.S k j).size 0 5))).alloc (.cells (bytesRow (I.S k j) (grownCap wr (I.S k j).size 0 5)) 5 ((bytesRow (I.S k j) (grownCap wr (I.S k j).size 0 5)).size, (bytesRow (I.S k j) (grownCap wr (I.S k j).size 0 5)).size + 1))).drew
          have hss : (wr.setCell ⟨wa.heap.size + 1, j, none⟩ (.slice (some ⟨wr.heap.size, 0, none⟩) (I.S k j).size (grownCap wr (I.S k j).size 0 5))).heap.size = wr.heap.size := by simp [World.setCell]
          go_roundg (gk - 1)
          case measure => omega
          case rel =>
            refine ⟨j + 1, fun i => if i = j then wr.heap.size else bbk i, fun i => if i = j then grownCap wr (I.S k j).size 0 5 else bck i, by omega, by go_num, ((HK2.out.setCell (p := ⟨wa.heap.size + 1, j, none⟩) (.inr (by show wa.heap.size ≤ wa.heap.size + 1; omega)) _).alloc _).drew, HRP2.out.kept kx.out (by omega), ?_, fun i hi => ?_⟩
            · refine RowF.congr (f := fun i => if i = j then .slice (some ⟨wr.heap.size, 0, none⟩) (I.S k j).size (grownCap wr (I.S k j).size 0 5) else (if i < j then .slice (some ⟨bbk i, 0, none⟩) (I.S k i).size (bck i) else .slice none 0 0)) ((HRK2.out.set j _).alloc _) fun i hi => ?_
              by_cases e : i = j
              · subst e
                rw [if_pos rfl, if_pos (by omega)]
                simp only [if_true]
              · simp only [if_neg e]
                by_cases e2 : i < j
                · rw [if_pos e2, if_pos (by omega)]
                · rw [if_neg e2, if_neg (by omega)]
            · have hsz := kx.out.size
              by_cases e : i = j
              · subst e
                simp only [if_true]
                refine ⟨by omega, ?_, BytesAt.new' _ _ _ _ hss⟩
                show wr.heap.size < ((wr.setCell _ _).alloc _).heap.size
                rw [World.size_alloc, hss]
                omega
              · simp only [if_neg e]
                obtain ⟨y1, y2, y3⟩ := HBB.out i (by omega)
                exact ⟨y1, Nat.lt_of_lt_of_le y2 hsz, y3.kept kx.out (by omega)⟩
        · obtain rfl : j = I.kn k := by omega
          have HB1 := mkHid (HB.out.step HK2.out)
          have h15 : ∀ g, u15.ownBlock = some g → g < wa.heap.size := fun g e => (ownsRow_in HB.out.o15 e).2
          have h14 : ∀ g, u14.ownBlock = some g → g < wa.heap.size := fun g e => (ownsRow_in HB.out.o14 e).2
          have h16 : ∀ g, u16.ownBlock = some g → g < wa.heap.size := fun g e => (ownsRow_in HB.out.o16 e).2
          obtain ⟨st', kb', bb', bc', est, hb2⟩ := HB1.out.next (wa.heap.size + 1) bbk bck (HRK2.out.congr fun i hi => by rw [if_pos hi]) HBB.out (fun g e => by have := h15 g e; omega) (fun g e => by have := h14 g e; omega) (fun g e => by have := h16 g e; omega)
          have HB2 := mkHid hb2
          have H15 := mkHid h15
          have H14 := mkHid h14
          have H16 := mkHid h16
          have HEST := mkHid est
          clear hb2 h15 h14 h16 est
          obtain ⟨i5, hi5, hz50, hz51, hz52⟩ := info_parts' Yba.info36
          obtain ⟨i4, hi4, hz40, hz41, hz42⟩ := info_parts' Yba.info42
          have hka : HB2.out.kept.size = HB2.out.kept.size := rfl
          clear hka
          by_cases hmo : I.mode = 2
          · obtain rfl : md = 2 := by have := HMD.out; omega
            go_wp2_with (first
              | (at_builtin; refine wpList_append_lies _ rfl (.tmp 129) (.tmp 131) 32 rfl w.heap.size 36 i5 (.pointer none) 1 8 Yba.underlying32 hi5 hz50 hz51 hz52 rfl (by decide) u15 k _ rfl HB2.out.o15 ⟨wr.heap.size + 1, 0, none⟩ 1 1 [.pointer (some ⟨wr.heap.size, 0, none⟩)] rfl rfl (news_one _ _ _ _ (by simp)) (by intro u hu; simp at hu; subst hu; rfl) (by decide) (by unfold maxLen; omega) (by omega) HB2.out.kept.size (wr.heap.size + 1 + 1) (by simp) ?_; intro g3 cap3 w3 ho3 hg3 hat3 hlt3; have HB3 := mkHid (HB2.out.app15 (g := g3) (cap := cap3) (by rw [show (dOf I st' kb' bb' bc').st k = wr.heap.size from HEST.out]; exact ho3) hg3 (by simpa using hat3)); have HG3 := mkHid hg3; have HB4 := mkHid (HB3.out.step ((Kept.refl _ _).alloc (.cells #[.iface 36 (.pointer (some ⟨wr.heap.size, 0, none⟩)), .int .i64 (clampN (I.Lo k) (I.kn k)), .int .i64 (clampN (I.Hi k) (I.kn k))] 42))); clear ho3 hg3 hat3 hlt3)
              | (at_builtin; refine wpList_append_lies _ rfl (.tmp 133) (.tmp 139) 31 rfl w.heap.size 42 i4 (.agg #[.nilIface, .int .i64 0, .int .i64 0]) 3 32 Yba.underlying31 hi4 hz40 hz41 hz42 rfl (by decide) u14 k _ rfl HB4.out.o14 ⟨w3.heap.size, 0, none⟩ 1 1 [.iface 36 (.pointer (some ⟨wr.heap.size, 0, none⟩)), .int .i64 (clampN (I.Lo k) (I.kn k)), .int .i64 (clampN (I.Hi k) (I.kn k))] rfl rfl (news_three _ _ _ _ _ _ rfl) (by intro u hu; simp at hu; rcases hu with rfl | rfl | rfl <;> rfl) (by decide) (by unfold maxLen; omega) (by omega) HB4.out.kept.size (w3.heap.size + 1) (by simp) ?_; intro g5 cap5 w5 ho5 hg5 hat5 hlt5; have HB5 := mkHid (HB4.out.app14 (g := g5) (cap := cap5) (by unfold hsOne; rw [show (dOf I st' kb' bb' bc').st k = wr.heap.size from HEST.out]; exact ho5) hg5 (by simpa using hat5)); have HG5 := mkHid hg5; clear ho5 hg5 hat5 hlt5)
              | go_in)
            have HMO := mkHid hmo
            have HRP5 : Hid (RowF w5 wa.heap.size 26 3 (setF kak (I.kn k) (I.kc k) (I.Lo k) (I.Hi k))) := mkHid (by
              have r1 := HRP2.out.kept (((Kept.refl (fun _ => False) wr).alloc (.cells #[.slice (some ⟨wa.heap.size + 1, 0, none⟩) (I.kn k) (I.kn k)] 38)).alloc (.cells #[.pointer (some ⟨wr.heap.size, 0, none⟩)] 36)) (fun h => h)
              have r2 := r1.kept (Kept.of_grown HG3.out) (fun e => by have := H15.out _ e; omega)
              have r3 := r2.alloc (.cells #[.iface 36 (.pointer (some ⟨wr.heap.size, 0, none⟩)), .int .i64 (clampN (I.Lo k) (I.kn k)), .int .i64 (clampN (I.Hi k) (I.kn k))] 42)
              exact r3.kept (Kept.of_grown HG5.out) (fun e => by have := H14.out _ e; omega))
            have hcl := clampN_le (I.Hi k) (I.kn k)
            have HEN : Hid (u16.ownBlock ≠ some wa.heap.size) := mkHid (fun e => by have := H16.out _ e; omega)
            clear HRP2 HRK2 HBB HB1 HB2 HB3 HB4 HG3 HG5 HK2 H15 H14 H16 lP hmo
            generalize hlo : clampN (I.Lo k) (I.kn k) = lo at *
            generalize hhi : clampN (I.Hi k) (I.kn k) = hi at *
            have HLO := mkHid hlo
            have HHI := mkHid hhi
            generalize wr.heap.size = N at *
            clear hlo hhi
            go_loopg [26, 16] (hi - lo) (fun g ix x16 wy => ∃ j : Nat, lo ≤ j ∧ (j - lo) + g = hi - lo ∧ ix = .int .i64 j ∧ Built (dOf I st' kb' bb' bc') (k + 1) (k + 1) (k + 1) w wy (.slice (some ⟨g5, 0, none⟩) (k + 1) cap5) (.slice (some ⟨g3, 0, none⟩) (k + 1) cap3) x16 (wantS I k ++ part (d0 I) k (j - lo)) ∧
              RowF wy wa.heap.size 26 3 (setF kak (I.kn k) (I.kc k) (I.Lo k) (I.Hi k)) ∧ x16.ownBlock ≠ some wa.heap.size)
            case atStart => exact ⟨lo, Nat.le_refl _, by omega, rfl, by simpa [part] using HB5.out, HRP5.out, HEN.out⟩
            case round =>
              obtain ⟨j, hj0, hj1, rfl, hb6, hr6, hn6⟩ := hrel
              have HB6 := mkHid hb6
              have HR6 := mkHid hr6
              have HN6 := mkHid hn6
              have z0 : wr.cell? ⟨wa.heap.size, 0, none⟩ = some (.slice kak (I.kn k) (I.kc k)) := hr6.cell (i := 0) (by decide)
              clear hb6 hr6 hn6 HB5 HRP5 HEN
              by_cases hjh : j < hi
              · have hjk : j < I.kn k := by omega
                obtain ⟨b', off', hka, q0⟩ := (HIN.out.below (Below.kept' HBL.out HB6.out.kept (fun _ _ h => h) (Nat.le_refl _))).keys k hlt j hjk
                obtain rfl := HKA.out.symm.trans hka
                have hll : (wantS I k ++ part (d0 I) k (j - lo)).length ≤ 65536 := by
                  have h1 := upTo_len (d0 I) (fun x => clampN_le _ _) k
                  have h2 := tot_le I.kn (show k + 1 ≤ I.m by omega)
                  have h3 := HT.out
                  simp only [tot] at h2
                  have h4 : (upTo (d0 I) k).length ≤ tot I.kn k := h1
                  simp only [wantS, HMO.out, if_true, List.length_append, part, List.length_map, List.length_range]
                  omega
                have HLL := mkHid hll
                obtain ⟨i9, hi9, hz90, hz91, hz92⟩ := info_parts' Yba.info9
                have HB7 := mkHid (HB6.out.step ((Kept.refl _ _).alloc (.cells #[.string (I.S k j)] 9)))
                clear hka hll
                go_wp2_with (first
                  | (at_builtin; refine wpList_append_lies _ rfl (.tmp 149) (.tmp 155) 24 rfl w.heap.size 9 i9 (.string ⟨#[]⟩) 1 16 Yba.underlying24 hi9 hz90 hz91 hz92 rfl (by decide) u16 _ _ rfl HB7.out.o16 ⟨wr.heap.size, 0, none⟩ 1 1 [.string (I.S k j)] rfl rfl (news_one _ _ _ _ rfl) (by intro u hu; simp at hu; subst hu; rfl) (by decide) (by have := HLL.out; unfold maxLen; omega) (by have := HLL.out; omega) HB7.out.kept.size (wr.heap.size + 1) (by simp) ?_; intro g7 cap7 w7 ho7 hg7 hat7 hlt7; have HB8 := mkHid (HB7.out.app16 (g := g7) (cap := cap7) (s := I.S k j) ho7 hg7 (by simpa using hat7)); have HR8 := mkHid ((HR6.out.alloc (.cells #[.string (I.S k j)] 9)).kept (Kept.of_grown hg7) HN6.out); have HAT7 := mkHid hat7; clear ho7 hg7 hat7 hlt7)
                  | go_in)
                have hN8 : g7 ≠ wa.heap.size := fun e => by
                  have := HR6.out.lt
                  rcases HAT7.out with q | q
                  · exact HN6.out (e ▸ q)
                  · omega
                go_roundg (gk - 1)
                case measure => omega
                case rel =>
                  have ej : j + 1 - lo = (j - lo) + 1 := by omega
                  have el : (d0 I).lo k = lo := HLO.out
                  refine ⟨j + 1, by omega, by omega, by go_num, ?_, HR8.out, by simpa [Value.ownBlock] using hN8⟩
                  rw [ej, part_succ, el, Nat.add_sub_cancel' hj0, ← List.append_assoc]
                  have hb8 := HB8.out
                  rw [List.length_append] at hb8
                  exact hb8
              · have ej : j - lo = hi - lo := by omega
                have HB8 := mkHid HB6.out
                go_wp2
                go_roundg (G - 1)
                case measure => omega
                case rel =>
                  refine ⟨k + 1, st', kb', bb', bc', by omega, by go_num, ?_⟩
                  have e : wantS I (k + 1) = wantS I k ++ part (d0 I) k (j - lo) := by
                    have e1 : (d0 I).lo k = lo := HLO.out
                    have e2 : (d0 I).hi k = hi := HHI.out
                    simp only [wantS, HMO.out, if_true, upTo, e1, e2, ej]
                  rw [e]
                  exact HB8.out
          · have hmo1 : ¬ md = 2 := by have := HMD.out; omega
            have hmo2 := decide_eq_false hmo1
            go_wp2_with (first
              | (at_builtin; refine wpList_append_lies _ rfl (.tmp 129) (.tmp 131) 32 rfl w.heap.size 36 i5 (.pointer none) 1 8 Yba.underlying32 hi5 hz50 hz51 hz52 rfl (by decide) u15 k _ rfl HB2.out.o15 ⟨wr.heap.size + 1, 0, none⟩ 1 1 [.pointer (some ⟨wr.heap.size, 0, none⟩)] rfl rfl (news_one _ _ _ _ (by simp)) (by intro u hu; simp at hu; subst hu; rfl) (by decide) (by unfold maxLen; omega) (by omega) HB2.out.kept.size (wr.heap.size + 1 + 1) (by simp) ?_; intro g3 cap3 w3 ho3 hg3 hat3 hlt3; have HB3 := mkHid (HB2.out.app15 (g := g3) (cap := cap3) (by rw [show (dOf I st' kb' bb' bc').st k = wr.heap.size from HEST.out]; exact ho3) hg3 (by simpa using hat3)); have HG3 := mkHid hg3; have HB4 := mkHid (HB3.out.step ((Kept.refl _ _).alloc (.cells #[.iface 36 (.pointer (some ⟨wr.heap.size, 0, none⟩)), .int .i64 (clampN (I.Lo k) (I.kn k)), .int .i64 (clampN (I.Hi k) (I.kn k))] 42))); clear ho3 hg3 hat3 hlt3)
              | (at_builtin; refine wpList_append_lies _ rfl (.tmp 133) (.tmp 139) 31 rfl w.heap.size 42 i4 (.agg #[.nilIface, .int .i64 0, .int .i64 0]) 3 32 Yba.underlying31 hi4 hz40 hz41 hz42 rfl (by decide) u14 k _ rfl HB4.out.o14 ⟨w3.heap.size, 0, none⟩ 1 1 [.iface 36 (.pointer (some ⟨wr.heap.size, 0, none⟩)), .int .i64 (clampN (I.Lo k) (I.kn k)), .int .i64 (clampN (I.Hi k) (I.kn k))] rfl rfl (news_three _ _ _ _ _ _ rfl) (by intro u hu; simp at hu; rcases hu with rfl | rfl | rfl <;> rfl) (by decide) (by unfold maxLen; omega) (by omega) HB4.out.kept.size (w3.heap.size + 1) (by simp) ?_; intro g5 cap5 w5 ho5 hg5 hat5 hlt5; have HB5 := mkHid (HB4.out.app14 (g := g5) (cap := cap5) (by unfold hsOne; rw [show (dOf I st' kb' bb' bc').st k = wr.heap.size from HEST.out]; exact ho5) hg5 (by simpa using hat5)); have HG5 := mkHid hg5; clear ho5 hg5 hat5 hlt5)
              | go_in)
            go_roundg (G - 1)
            case measure => omega
            case rel =>
              refine ⟨k + 1, st', kb', bb', bc', by omega, by go_num, ?_⟩
              have e : wantS I (k + 1) = wantS I k := by simp only [wantS, if_neg hmo]
              rw [e]
              exact HB5.out
    · obtain rfl : k = I.m := by omega
      go_wp2
      exact ⟨rfl, ⟨rfl, rfl⟩, ⟨rfl, rfl, rfl, rfl⟩, st, kb, bb, bc, HB.out⟩
end Go.Proofs.Ybulkexnvq
