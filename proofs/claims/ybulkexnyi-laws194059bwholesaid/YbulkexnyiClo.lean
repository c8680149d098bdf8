/-
  THE CLOSURE IN MEMORY.
-/
import Derived.Test.YbulkexnyiSets
import Derived.Test.YbulkexnyiPlain
namespace Go.Proofs.Ybulkexnyi
open Go Go.RowKit

/-- Where the closure's blocks lie, and what does not turn. -/
structure Lay where
  nn : Nat
  W : Nat
  aft : Nat → List Nat
  C : Nat
  P : Nat
  Ac : Nat
  Af : Nat
  L : Nat
  N : Nat
  B : Nat
  av : Nat → Value

structure Lay.Ok (y : Lay) : Prop where
  hn0 : 0 < y.nn
  hn : y.nn ≤ 300
  hW : (y.nn + 63) / 64 = y.W
  up : Up y.aft y.nn
  C : y.C < y.B ∧ y.C ≠ y.L
  P : y.P < y.B ∧ y.P ≠ y.L
  Af : y.Af < y.B ∧ y.Af ≠ y.L
  N : y.N < y.B ∧ y.N ≠ y.L
  L : y.L < y.B
  av : ∀ a, a < y.nn → ∀ g, (y.av a).ownBlock = some g → g < y.B ∧ g ≠ y.L
  len : ∀ a, a < y.nn → (y.aft a).length ≤ 65536

/-- The part that After never writes. -/
structure Stat (y : Lay) (w : World) : Prop where
  c0 : w.cell? ⟨y.C, 0, none⟩ = some (.pointer (some ⟨y.P, 0, none⟩))
  c1 : w.cell? ⟨y.C, 1, none⟩ = some (.slice (some ⟨y.L, 0, none⟩) y.nn y.nn)
  c3 : w.cell? ⟨y.C, 3, none⟩ = some (.slice (some ⟨y.N, 0, none⟩) y.W y.W)
  p0 : w.cell? ⟨y.P, 0, none⟩ = some (.slice (some ⟨y.Ac, 0, none⟩) y.nn y.nn)
  p3 : w.cell? ⟨y.P, 3, none⟩ = some (.slice (some ⟨y.Af, 0, none⟩) y.nn y.nn)
  af : RowF w y.Af 27 y.nn y.av
  rows : ∀ a, a < y.nn → w.ownsRow 0 3 1 (y.av a) (y.aft a).length ((y.aft a).map fun x : Nat => Value.int .i64 x)
  none_ : SetAt w y.N y.W (fun _ => false)
  size : y.B ≤ w.heap.size

def setV (W : Nat) : Option Nat → Value
  | none => .slice none 0 0
  | some b => .slice (some ⟨b, 0, none⟩) W W

/-- The part that After fills. -/
structure Dyn (y : Lay) (w : World) (lv : Nat → Option Nat) : Prop where
  later : RowF w y.L 41 y.nn (fun k => setV y.W (lv k))
  sets : ∀ k b, lv k = some b → k < y.nn ∧ SetAt w b y.W (R y.aft y.nn k) ∧ b ≠ y.L

theorem ownsRow_of_block {w w' : World} {base : Nat} {e : TypeId} {size : Nat} {v : Value} {n : Nat} {xs : List Value} (h : w.ownsRow base e size v n xs) (hb : ∀ g, v.ownBlock = some g → w'.heap[g]? = w.heap[g]?) : w'.ownsRow base e size v n xs := by
  refine ⟨h.1, ?_⟩
  rcases h.2 with h2 | ⟨g, cap, cur, rfl, hg, hh, r⟩
  · exact .inl h2
  · exact .inr ⟨g, cap, cur, rfl, hg, (hb g rfl).trans hh, r⟩

theorem ownsRow_lt {w : World} {base : Nat} {e : TypeId} {size : Nat} {v : Value} {n : Nat} {xs : List Value} (h : w.ownsRow base e size v n xs) {g : Nat} (hg : v.ownBlock = some g) : g < w.heap.size := by
  rcases h.2 with ⟨rfl, _⟩ | ⟨g', cap, cur, rfl, _, hh, r⟩
  · simp [Value.ownBlock] at hg
  · simp [Value.ownBlock] at hg
    subst hg
    exact (Array.getElem?_eq_some_iff.1 hh).1

theorem Stat.kept {y : Lay} {w w' : World} {X : Nat → Prop} (ok : y.Ok) (h : Stat y w) (k : Kept X w w') (hX : ∀ b, X b → b = y.L ∨ y.B ≤ b) : Stat y w' := by
  have no : ∀ b, b < y.B ∧ b ≠ y.L → ¬ X b := fun b hb hx => (hX b hx).elim (fun e => hb.2 e) (fun e => by omega)
  exact ⟨k.cell h.c0 (no _ ok.C), k.cell h.c1 (no _ ok.C), k.cell h.c3 (no _ ok.C), k.cell h.p0 (no _ ok.P), k.cell h.p3 (no _ ok.P), h.af.kept k (no _ ok.Af),
    fun a ha => ownsRow_of_block (h.rows a ha) fun g hg => k.block g (ownsRow_lt (h.rows a ha) hg) (no _ (ok.av a ha g hg)), RowF.kept h.none_ k (no _ ok.N), Nat.le_trans h.size k.size⟩

theorem Dyn.kept {y : Lay} {w w' : World} {X : Nat → Prop} {lv : Nat → Option Nat} (h : Dyn y w lv) (k : Kept X w w') (hL : ¬ X y.L) (hX : ∀ q b, lv q = some b → ¬ X b) : Dyn y w' lv :=
  ⟨h.later.kept k hL, fun q b hb => ⟨(h.sets q b hb).1, RowF.kept (h.sets q b hb).2.1 k (hX q b hb), (h.sets q b hb).2.2⟩⟩

/-- What a call of After or reach leaves. -/
structure Left (y : Lay) (w : World) (lv : Nat → Option Nat) (w' : World) (lv' : Nat → Option Nat) : Prop where
  stat : Stat y w'
  dyn : Dyn y w' lv'
  mono : ∀ k b, lv k = some b → lv' k = some b
  news : ∀ k b, lv' k = some b → lv k = some b ∨ b = y.N ∨ w.heap.size ≤ b
  kept : Kept (· = y.L) w w'

theorem Left.refl {y : Lay} {w : World} {lv : Nat → Option Nat} (hs : Stat y w) (hd : Dyn y w lv) : Left y w lv w lv :=
  ⟨hs, hd, fun _ _ h => h, fun _ _ h => .inl h, Kept.refl _ _⟩

theorem Left.trans {y : Lay} {w w' w'' : World} {lv lv' lv'' : Nat → Option Nat} (h : Left y w lv w' lv') (k : Left y w' lv' w'' lv'') : Left y w lv w'' lv'' :=
  ⟨k.stat, k.dyn, fun q b hq => k.mono q b (h.mono q b hq), fun q b hq => by
    rcases k.news q b hq with h1 | h1 | h1
    · exact h.news q b h1
    · exact .inr (.inl h1)
    · exact .inr (.inr (Nat.le_trans h.kept.size h1)), h.kept.trans k.kept⟩

/-- A set that the caller builds: a block of its own. -/
structure Own (y : Lay) (w0 w : World) (lv : Nat → Option Nat) (b : Nat) (p : Nat → Bool) : Prop where
  set : SetAt w b y.W p
  old : w0.heap.size ≤ b
  other : ∀ k c, lv k = some c → c ≠ b

theorem int_cell {w : World} {v : Value} {l : List Nat} (h : w.ownsRow 0 3 1 v l.length (l.map fun x : Nat => Value.int .i64 x)) {k : Nat} (hk : k < l.length) :
    ∃ g cap, v = .slice (some ⟨g, 0, none⟩) l.length cap ∧ w.cell? ⟨g, k, none⟩ = some (.int .i64 (l[k]'hk : Nat)) := by
  rcases h.2 with ⟨_, e⟩ | ⟨g, cap, cur, rfl, _, hh, _, _, _, ht⟩
  · omega
  · refine ⟨g, cap, rfl, ?_⟩
    simp only [World.cell?, hh]
    have h2 := congrArg (fun l => l[k]?) ht
    simp only [Nat.mul_one] at h2
    rw [List.getElem?_take_of_lt hk] at h2
    simpa [hk] using h2

theorem Own.step {y : Lay} (ok : y.Ok) {w w1 w2 : World} {lv lv1 : Nat → Option Nat} {sb : Nat} {p p' : Nat → Bool} (hw : Stat y w) (hl : Left y w lv w1 lv1) (ho : Own y w w1 lv1 sb p) (hs : SetAt w2 sb y.W p') (hk : Kept (· = sb) w1 w2) :
    Left y w lv w2 lv1 ∧ Own y w w2 lv1 sb p' := by
  have hB := hw.size
  have h1 := ho.old
  have h2 := ok.L
  refine ⟨⟨hl.stat.kept ok hk (fun b hb => .inr (by omega)), hl.dyn.kept hk (fun e => ?_) (fun q b hb e => ho.other q b hb e), hl.mono, hl.news, hl.kept.then' hk (fun i hi e => ?_)⟩, ⟨hs, ho.old, ho.other⟩⟩
  · have : y.L = sb := e
    omega
  · have : i = sb := e
    omega

theorem Own.call {y : Lay} (ok : y.Ok) {w w2 w3 : World} {lv lv1 lv2 : Nat → Option Nat} {sb j b : Nat} {p : Nat → Bool} (hw : Stat y w) (hl : Left y w lv w2 lv1) (ho : Own y w w2 lv1 sb p) (hb : lv2 j = some b) (h3 : Left y w2 lv1 w3 lv2) :
    Left y w lv w3 lv2 ∧ Own y w w3 lv2 sb p ∧ SetAt w3 b y.W (R y.aft y.nn j) ∧ sb ≠ b := by
  have hB := hw.size
  have h1 := ho.old
  have h2 := ok.L
  have hN := ok.N
  have hlt := RowF.lt ho.set
  have hne : ∀ k c, lv2 k = some c → c ≠ sb := fun k c hc e => by
    rcases h3.news k c hc with h | h | h
    · exact ho.other k c h e
    · omega
    · omega
  refine ⟨hl.trans h3, ⟨RowF.kept ho.set h3.kept (fun e => ?_), ho.old, hne⟩, (h3.dyn.sets j b hb).2.1, fun e => hne j b hb e.symm⟩
  have : sb = y.L := e
  omega

theorem Own.new {y : Lay} (ok : y.Ok) {w w1 : World} {lv lv1 : Nat → Option Nat} (hl : Left y w lv w1 lv1) :
    Left y w lv (w1.alloc (.cells (madeCells #[.int .u64 0] y.W) 47)) lv1 ∧ Own y w (w1.alloc (.cells (madeCells #[.int .u64 0] y.W) 47)) lv1 w1.heap.size (fun _ => false) := by
  have hk : Kept (fun _ => False) w1 (w1.alloc (.cells (madeCells #[.int .u64 0] y.W) 47)) := (Kept.refl _ _).alloc _
  refine ⟨⟨hl.stat.kept ok hk (fun _ h => h.elim), hl.dyn.kept hk (fun h => h) (fun _ _ _ h => h), hl.mono, hl.news, hl.kept.then' hk (fun _ _ h => h.elim)⟩, ⟨SetAt.new w1 y.W, hl.kept.size, fun k c hc => Nat.ne_of_lt (RowF.lt (hl.dyn.sets k c hc).2.1)⟩⟩

theorem eql_nil (a : Option Addr) (l c : Nat) (w : World) : (binOp .eql 41 (.slice a l c) (.slice none 0 0)).run Yba.prog w = .ok (.bool a.isNone) w := by
  simp only [binOp]
  simp [run_equal_slice_nil w 41 47 a l c Yba.underlying41]
end Go.Proofs.Ybulkexnyi
