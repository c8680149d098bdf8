/-
  THE CLOSURE AS THE LAW LAYS IT: three slices made in whatever order.
-/
import Derived.Test.YbulkexnyiLinks
import Derived.Test.YbulkexnyiAfter
namespace Go.Proofs.Ybulkexnyi
open Go Go.RowKit

def cloF (P L E N nn W : Nat) : Nat → Value
  | 0 => .pointer (some ⟨P, 0, none⟩)
  | 1 => .slice (some ⟨L, 0, none⟩) nn nn
  | 2 => .slice (some ⟨E, 0, none⟩) nn nn
  | _ => .slice (some ⟨N, 0, none⟩) W W

structure Made (w0 : World) (P nn W C L E N : Nat) (wx : World) : Prop where
  l : RowF wx L 41 nn (fun _ => .slice none 0 0)
  e : RowF wx E 41 nn (fun _ => .slice none 0 0)
  n : SetAt wx N W (fun _ => false)
  c : RowF wx C 43 4 (cloF P L E N nn W)
  kept : Kept (fun _ => False) w0 wx
  new : w0.heap.size ≤ L ∧ w0.heap.size ≤ E ∧ w0.heap.size ≤ N ∧ w0.heap.size ≤ C
  ne : E ≠ L ∧ N ≠ L ∧ C ≠ L

theorem get4 (w : World) (o1 o2 o3 o4 : Obj) (H : Nat) (hH : w.heap.size = H) :
    ((((w.alloc o1).alloc o2).alloc o3).alloc o4).drew.heap[H]? = some o1 ∧ ((((w.alloc o1).alloc o2).alloc o3).alloc o4).drew.heap[H + 1]? = some o2 ∧
    ((((w.alloc o1).alloc o2).alloc o3).alloc o4).drew.heap[H + 1 + 1]? = some o3 ∧ ((((w.alloc o1).alloc o2).alloc o3).alloc o4).drew.heap[H + 1 + 1 + 1]? = some o4 := by
  subst hH
  have e1 : (w.alloc o1).heap.size = w.heap.size + 1 := by simp
  have e2 : ((w.alloc o1).alloc o2).heap.size = w.heap.size + 1 + 1 := by simp
  have e3 : (((w.alloc o1).alloc o2).alloc o3).heap.size = w.heap.size + 1 + 1 + 1 := by simp
  refine ⟨?_, ?_, ?_, ?_⟩
  · show ((((w.alloc o1).alloc o2).alloc o3).alloc o4).heap[w.heap.size]? = some o1
    rw [Below.heap_alloc _ _ _ (by omega), Below.heap_alloc _ _ _ (by omega), Below.heap_alloc _ _ _ (by omega)]
    exact (MapKept.heap_alloc w _).1
  · show ((((w.alloc o1).alloc o2).alloc o3).alloc o4).heap[w.heap.size + 1]? = some o2
    rw [Below.heap_alloc _ _ _ (by omega), Below.heap_alloc _ _ _ (by omega), ← e1]
    exact (MapKept.heap_alloc (w.alloc o1) _).1
  · show ((((w.alloc o1).alloc o2).alloc o3).alloc o4).heap[w.heap.size + 1 + 1]? = some o3
    rw [Below.heap_alloc _ _ _ (by omega), ← e2]
    exact (MapKept.heap_alloc ((w.alloc o1).alloc o2) _).1
  · show ((((w.alloc o1).alloc o2).alloc o3).alloc o4).heap[w.heap.size + 1 + 1 + 1]? = some o4
    rw [← e3]
    exact (MapKept.heap_alloc (((w.alloc o1).alloc o2).alloc o3) _).1

theorem madeCells_row (v : Value) (n : Nat) : madeCells #[v] n = ((List.range n).map (fun _ => v)).toArray := by
  apply Array.toList_inj.1
  rw [toList_madeCells_one, replicate_range]

theorem Made.mk' {w0 wx : World} {P nn W C L E N : Nat} (hC : wx.heap[C]? = some (.cells #[.pointer (some ⟨P, 0, none⟩), .slice (some ⟨L, 0, none⟩) nn nn, .slice (some ⟨E, 0, none⟩) nn nn, .slice (some ⟨N, 0, none⟩) W W] 43))
    (hL : wx.heap[L]? = some (.cells (madeCells #[.slice none 0 0] nn) 41)) (hE : wx.heap[E]? = some (.cells (madeCells #[.slice none 0 0] nn) 41)) (hN : wx.heap[N]? = some (.cells (madeCells #[.int .u64 0] W) 47))
    (hk : Kept (fun _ => False) w0 wx) (hnew : w0.heap.size ≤ L ∧ w0.heap.size ≤ E ∧ w0.heap.size ≤ N ∧ w0.heap.size ≤ C) (hne : E ≠ L ∧ N ≠ L ∧ C ≠ L) : Made w0 P nn W C L E N wx := by
  refine ⟨?_, ?_, ?_, ?_, hk, hnew, hne⟩
  · rw [madeCells_row] at hL; exact hL
  · rw [madeCells_row] at hE; exact hE
  · rw [madeCells_row] at hN
    exact RowF.congr (f := fun _ => .int .u64 0) hN fun k _ => by rw [wrd_zero]; rfl
  · exact hC

def planF (X A nn : Nat) : Nat → Value
  | 0 => .slice (some ⟨X, 0, none⟩) nn nn
  | 1 => .slice none 0 0
  | 2 => .slice (some ⟨A + 1, 0, none⟩) nn nn
  | _ => .slice (some ⟨A, 0, none⟩) nn nn

/-- The layout of the law's closure. -/
def layOf (nn W : Nat) (aft : Nat → List Nat) (C P X A L N B : Nat) (av : Nat → Value) : Lay := { nn := nn, W := W, aft := aft, C := C, P := P, Ac := X, Af := A, L := L, N := N, B := B, av := av }

theorem ownsRow_base {w : World} {base : Nat} {e : TypeId} {size : Nat} {v : Value} {n : Nat} {xs : List Value} (h : w.ownsRow base e size v n xs) : w.ownsRow 0 e size v n xs := by
  refine ⟨h.1, ?_⟩
  rcases h.2 with h2 | ⟨g, cap, cur, hv, _, r⟩
  · exact .inl h2
  · exact .inr ⟨g, cap, cur, hv, Nat.zero_le _, r⟩

/-- All that the second half of the law reads, and what it must leave. -/
structure Fin (y : Lay) (E : Nat) (w : World) (lv : Nat → Option Nat) (wx : World) : Prop where
  stat : Stat y wx
  dyn : Dyn y wx lv
  c2 : wx.cell? ⟨y.C, 2, none⟩ = some (.slice (some ⟨E, 0, none⟩) y.nn y.nn)
  e : RowF wx E 41 y.nn (fun _ => .slice none 0 0)
  eB : E < y.B ∧ E ≠ y.L
  below : Below w.heap.size w wx

theorem Fin.adj {y : Lay} {E : Nat} {w : World} {lv : Nat → Option Nat} {wx : World} (h : Fin y E w lv wx) : Adj y wx := ⟨h.stat.af, h.stat.rows⟩

theorem Below.kept {B : Nat} {w w1 w2 : World} {X : Nat → Prop} (h : Below B w w1) (k : Kept X w1 w2) (hX : ∀ b, b < B → ¬ X b) (hB : B ≤ w.heap.size) : Below B w w2 :=
  ⟨k.os.trans h.os, k.tape.trans h.tape, k.output.trans h.output, Nat.le_trans h.size k.size, fun b hb => (k.block b (Nat.lt_of_lt_of_le hb (Nat.le_trans hB h.size)) (hX b hb)).trans (h.block b hb)⟩

theorem Fin.kept {y : Lay} (ok : y.Ok) {E : Nat} {w : World} {lv : Nat → Option Nat} {wx w2 : World} (h : Fin y E w lv wx) (k : Kept (fun _ => False) wx w2) : Fin y E w lv w2 :=
  ⟨h.stat.kept ok k (fun _ h => h.elim), h.dyn.kept k (fun h => h) (fun _ _ _ h => h), k.cell h.c2 (fun h => h), h.e.kept k (fun h => h), h.eB, Below.kept h.below k (fun _ _ h => h) (Nat.le_refl _)⟩

theorem Fin.call {y : Lay} {E : Nat} {w : World} {lv lv' : Nat → Option Nat} {wx w2 : World} (ok : y.Ok) (hL : w.heap.size ≤ y.L) (h : Fin y E w lv wx) (k : Left y wx lv w2 lv') : Fin y E w lv' w2 :=
  ⟨k.stat, k.dyn, k.kept.cell h.c2 (fun e => ok.C.2 e), h.e.kept k.kept h.eB.2, h.eB, Below.kept h.below k.kept (fun b hb e => by have : b = y.L := e; omega) (Nat.le_refl _)⟩

theorem lay_ok {w wr wc : World} {nn W X C L E N : Nat} {lst : Bool → Nat → List Nat} {fv : Bool → Nat → Value} (hn0 : 0 < nn) (hn3 : nn ≤ 300) (hW : ((nn : Int) + 63) / 64 = (W : Int)) (hup : Up (lst false) nn) (hln : ∀ t a, (lst t a).length ≤ 65536)
    (hg : G1 w.heap.size nn lst fv wr) (hk : Kept (fun _ => False) w wr)
    (hm : Made (wr.alloc (.cells #[.slice (some ⟨X, 0, none⟩) nn nn, .slice none 0 0, .slice (some ⟨w.heap.size + 1, 0, none⟩) nn nn, .slice (some ⟨w.heap.size, 0, none⟩) nn nn] 37)) wr.heap.size nn W C L E N wc) :
    (layOf nn W (lst false) C wr.heap.size X w.heap.size L N wc.heap.size (fv false)).Ok ∧ w.heap.size ≤ L ∧
    Fin (layOf nn W (lst false) C wr.heap.size X w.heap.size L N wc.heap.size (fv false)) E w (fun _ => none) wc := by
  have e0 : (wr.alloc (.cells #[.slice (some ⟨X, 0, none⟩) nn nn, .slice none 0 0, .slice (some ⟨w.heap.size + 1, 0, none⟩) nn nn, .slice (some ⟨w.heap.size, 0, none⟩) nn nn] 37)).heap.size = wr.heap.size + 1 := by simp
  have hz := hg.size
  have hnew := hm.new
  rw [e0] at hnew
  obtain ⟨n1, n2, n3, n4⟩ := hnew
  obtain ⟨d1, d2, d3⟩ := hm.ne
  have kz := hm.kept.size
  rw [e0] at kz
  have lL := hm.l.lt
  have lE := hm.e.lt
  have lN := RowF.lt hm.n
  have lC := hm.c.lt
  have hg2 := hg.one (.cells #[.slice (some ⟨X, 0, none⟩) nn nn, .slice none 0 0, .slice (some ⟨w.heap.size + 1, 0, none⟩) nn nn, .slice (some ⟨w.heap.size, 0, none⟩) nn nn] 37)
  have hg3 := hg2.kept hm.kept (fun _ _ _ h => h)
  have hp := RowF.kept (RowF.alloc_new wr 37 #[.slice (some ⟨X, 0, none⟩) nn nn, .slice none 0 0, .slice (some ⟨w.heap.size + 1, 0, none⟩) nn nn, .slice (some ⟨w.heap.size, 0, none⟩) nn nn] 4 (planF X w.heap.size nn) (by simp [List.range, List.range.loop, planF])) hm.kept (fun h => h)
  have hr0 : RowF wc w.heap.size 27 nn (fv false) := by simpa using hg3.row false
  refine ⟨⟨hn0, hn3, ?_, hup, ⟨lC, d3⟩, ?_, ?_, ⟨lN, d2⟩, lL, ?_, fun a _ => hln false a⟩, by omega, ⟨⟨?_, ?_, ?_, ?_, ?_, hr0, ?_, hm.n, Nat.le_refl _⟩, ⟨hm.l, fun k b h => by cases h⟩, ?_, hm.e, ⟨lE, d1⟩, ?_⟩⟩
  · show (nn + 63) / 64 = W
    omega
  · exact ⟨show wr.heap.size < wc.heap.size by omega, show wr.heap.size ≠ L by omega⟩
  · exact ⟨show w.heap.size < wc.heap.size by omega, show w.heap.size ≠ L by omega⟩
  · intro a ha g hga
    have := ((hg.own false a ha).lt g hga).2
    exact ⟨show g < wc.heap.size by omega, show g ≠ L by omega⟩
  · exact hm.c.cell (i := 0) (by decide)
  · exact hm.c.cell (i := 1) (by decide)
  · exact hm.c.cell (i := 3) (by decide)
  · exact hp.cell (i := 0) (by decide)
  · exact hp.cell (i := 3) (by decide)
  · exact fun a ha => ownsRow_base (hg3.own false a ha)
  · exact hm.c.cell (i := 2) (by decide)
  · exact Below.kept ((hk.alloc _).below (fun _ _ h => h) (Nat.le_refl _)) hm.kept (fun _ _ h => h) (Nat.le_refl _)

section
variable {nn W C P X A L N B E : Nat} {aft : Nat → List Nat} {av : Nat → Value} {w wz : World} {lv : Nat → Option Nat} {x : Nat}

theorem after_fx (ok : (layOf nn W aft C P X A L N B av).Ok) (hL : w.heap.size ≤ L) (hx : x < nn) (h : Fin (layOf nn W aft C P X A L N B av) E w lv wz) :
    Calls Yba.prog 4 #[.pointer (some ⟨C, 0, none⟩), .int .i64 x] wz fun e w' => ∃ b lv', e = .returned (.slice (some ⟨b, 0, none⟩) W W) ∧ lv' x = some b ∧
      Fin (layOf nn W aft C P X A L N B av) E w lv' w' ∧ SetAt w' b W (R aft nn x) ∧ Kept (· = L) wz w' := by
  refine (after_any (layOf nn W aft C P X A L N B av) ok nn x (Nat.sub_le _ _) hx wz lv h.stat h.dyn).mono ?_
  rintro e w' ⟨b, lv', rfl, hb, hl⟩
  exact ⟨b, lv', rfl, hb, h.call ok hL hl, (hl.dyn.sets x b hb).2.1, hl.kept⟩

theorem breach_fx (ok : (layOf nn W aft C P X A L N B av).Ok) (hx : x < nn) (h : Fin (layOf nn W aft C P X A L N B av) E w lv wz) :
    Calls Yba.prog 5 #[.slice (some ⟨A, 0, none⟩) nn nn, .int .i64 nn, .int .i64 x] wz fun e w' => ∃ b, e = .returned (.slice (some ⟨b, 0, none⟩) W W) ∧
      SetAt w' b W (R aft nn x) ∧ wz.heap.size ≤ b ∧ Kept (fun _ => False) wz w' ∧ Fin (layOf nn W aft C P X A L N B av) E w lv w' := by
  refine (breach_any (layOf nn W aft C P X A L N B av) ok x hx wz h.adj).mono ?_
  rintro e w' ⟨b, rfl, h1, h2, h3⟩
  exact ⟨b, rfl, h1, h2, h3, h.kept ok h3⟩

theorem Fin.c1 (h : Fin (layOf nn W aft C P X A L N B av) E w lv wz) : wz.cell? ⟨C, 1, none⟩ = some (.slice (some ⟨L, 0, none⟩) nn nn) := h.stat.c1
theorem Fin.c2' (h : Fin (layOf nn W aft C P X A L N B av) E w lv wz) : wz.cell? ⟨C, 2, none⟩ = some (.slice (some ⟨E, 0, none⟩) nn nn) := h.c2
theorem Fin.c3 (h : Fin (layOf nn W aft C P X A L N B av) E w lv wz) : wz.cell? ⟨C, 3, none⟩ = some (.slice (some ⟨N, 0, none⟩) W W) := h.stat.c3
theorem Fin.later (h : Fin (layOf nn W aft C P X A L N B av) E w lv wz) {k : Nat} (hk : k < nn) : wz.cell? ⟨L, k, none⟩ = some (setV W (lv k)) := h.dyn.later.cell hk
theorem Fin.earlier (h : Fin (layOf nn W aft C P X A L N B av) E w lv wz) {k : Nat} (hk : k < nn) : wz.cell? ⟨E, k, none⟩ = some (.slice none 0 0) := h.e.cell hk
theorem Fin.none0 (h : Fin (layOf nn W aft C P X A L N B av) E w lv wz) {k : Nat} (hk : k < W) : wz.cell? ⟨N, k, none⟩ = some (.int .u64 0) := by
  have := RowF.cell h.stat.none_ hk
  rw [wrd_zero] at this
  exact this
theorem Fin.set (h : Fin (layOf nn W aft C P X A L N B av) E w lv wz) {k b : Nat} (hk : lv k = some b) : SetAt wz b W (R aft nn k) := (h.dyn.sets k b hk).2.1
theorem Fin.drewN (h : Fin (layOf nn W aft C P X A L N B av) E w lv wz) (ok : (layOf nn W aft C P X A L N B av).Ok) (q : Nat) : Fin (layOf nn W aft C P X A L N B av) E w lv (wz.drewN q) := h.kept ok ((Kept.refl _ _).drewN q)
theorem Fin.ltL (h : Fin (layOf nn W aft C P X A L N B av) E w lv wz) (ok : (layOf nn W aft C P X A L N B av).Ok) : L < wz.heap.size := Nat.lt_of_lt_of_le ok.L h.stat.size
end
end Go.Proofs.Ybulkexnyi
