/-
  THE LAW's FIRST LOOP: the links, laid out as two tables of slices.
-/
import Derived.Test.YbulkexnyiBreach
import Derived.Deep.AppendLies
namespace Go.Proofs.Ybulkexnyi
open Go Go.RowKit

def upd {α : Type} (f : Bool → Nat → α) (t : Bool) (a : Nat) (v : α) : Bool → Nat → α := fun t' a' => if t' = t ∧ a' = a then v else f t' a'

theorem upd_same {α : Type} (f : Bool → Nat → α) (t : Bool) (a : Nat) (v : α) : upd f t a v t a = v := by simp [upd]
theorem upd_other {α : Type} (f : Bool → Nat → α) (t : Bool) (a : Nat) (v : α) {t' : Bool} {a' : Nat} (h : ¬ (t' = t ∧ a' = a)) : upd f t a v t' a' = f t' a' := by simp [upd, h]

/-- The two tables ('after': false, 'before': true), from the block A on. -/
structure G1 (A nn : Nat) (lst : Bool → Nat → List Nat) (fv : Bool → Nat → Value) (wr : World) : Prop where
  row : ∀ t : Bool, RowF wr (A + t.toNat) 27 nn (fv t)
  own : ∀ t a, a < nn → wr.ownsRow (A + 2) 3 1 (fv t a) (lst t a).length (ints (lst t a))
  inj : ∀ t a t' a' g, a < nn → a' < nn → (fv t a).ownBlock = some g → (fv t' a').ownBlock = some g → t' = t ∧ a' = a
  size : A + 2 ≤ wr.heap.size

theorem toNat_lt (t : Bool) : t.toNat < 2 := by cases t <;> decide

theorem G1.kept {A nn : Nat} {lst : Bool → Nat → List Nat} {fv : Bool → Nat → Value} {w w' : World} {X : Nat → Prop} (h : G1 A nn lst fv w) (k : Kept X w w') (hX : ∀ b, b < w.heap.size → A ≤ b → ¬ X b) : G1 A nn lst fv w' :=
  ⟨fun t => (h.row t).kept k (hX _ (h.row t).lt (by omega)), fun t a ha => ownsRow_of_block (h.own t a ha) fun g hg => k.block g (ownsRow_lt (h.own t a ha) hg) (hX g (ownsRow_lt (h.own t a ha) hg) (by have := ((h.own t a ha).lt g hg).1; omega)), h.inj, Nat.le_trans h.size k.size⟩

theorem G1.kept' {A nn : Nat} {lst : Bool → Nat → List Nat} {fv : Bool → Nat → Value} {w w' : World} {X : Nat → Prop} (h : G1 A nn lst fv w) (k : Kept X w w') (h0 : ¬ X A) (h1 : ¬ X (A + 1)) (hX : ∀ t a g, a < nn → (fv t a).ownBlock = some g → ¬ X g) : G1 A nn lst fv w' :=
  ⟨fun t => (h.row t).kept k (match t with | false => h0 | true => h1), fun t a ha => ownsRow_of_block (h.own t a ha) fun g hg => k.block g (ownsRow_lt (h.own t a ha) hg) (hX t a g ha hg), h.inj, Nat.le_trans h.size k.size⟩

theorem G1.app {A nn : Nat} {lst : Bool → Nat → List Nat} {fv : Bool → Nat → Value} {wr w1 : World} (h : G1 A nn lst fv wr) (t : Bool) {a b g cap : Nat} (ha : a < nn)
    (ho : w1.ownsRow (A + 2) 3 1 (.slice (some ⟨g, 0, none⟩) ((lst t a).length + 1) cap) ((lst t a).length + 1) (ints (lst t a) ++ [.int .i64 b]))
    (hg : wr.grownBy w1 (fv t a).ownBlock) (hat : (fv t a).ownBlock = some g ∨ g = wr.heap.size) :
    G1 A nn (upd lst t a (lst t a ++ [b])) (upd fv t a (.slice (some ⟨g, 0, none⟩) ((lst t a).length + 1) cap)) (w1.setCell ⟨A + t.toNat, a, none⟩ (.slice (some ⟨g, 0, none⟩) ((lst t a).length + 1) cap)) := by
  have hz := h.size
  have ht2 := toNat_lt t
  have hown := h.own t a ha
  have hb : ∀ t' a', a' < nn → ∀ q, (fv t' a').ownBlock = some q → A + 2 ≤ q ∧ q < wr.heap.size := fun t' a' ha' q hq => (h.own t' a' ha').lt q hq
  have hk1 : Kept (fun q => (fv t a).ownBlock = some q) wr w1 := (Kept.refl _ _).grown hg (fun k hk => .inl hk)
  have hk2 : Kept (fun q => q = A + t.toNat) w1 (w1.setCell ⟨A + t.toNat, a, none⟩ (.slice (some ⟨g, 0, none⟩) ((lst t a).length + 1) cap)) := (Kept.refl (fun q => q = A + t.toNat) w1).setCell (p := ⟨A + t.toNat, a, none⟩) (.inl rfl) _
  have no : ∀ q, q < A + 2 → ¬ (fv t a).ownBlock = some q := fun q hq e => by have := hb t a ha q e; omega
  have hgA : A + 2 ≤ g := by
    rcases hat with e | e
    · exact (hb t a ha g e).1
    · omega
  have hng : ∀ t' a', a' < nn → ¬ (t' = t ∧ a' = a) → ¬ (fv t' a').ownBlock = some g := fun t' a' ha' hne e => by
    rcases hat with e2 | e2
    · exact hne (h.inj t a t' a' g ha ha' e2 e)
    · have := hb t' a' ha' g e; omega
  refine ⟨fun t' => ?_, fun t' a' ha' => ?_, fun t1 a1 t2 a2 q h1 h2 e1 e2 => ?_, Nat.le_trans hz (Nat.le_trans hk1.size hk2.size)⟩
  · by_cases e : t' = t
    · subst e
      exact (((h.row t').kept hk1 (no _ (by omega))).set a _).congr fun i hi => by
        by_cases e2 : i = a
        · subst e2; simp [upd_same]
        · simp only [if_neg e2]; rw [upd_other _ _ _ _ (fun h => e2 h.2)]
    · have hne : A + t'.toNat ≠ A + t.toNat := by cases t <;> cases t' <;> simp_all
      exact (((h.row t').kept hk1 (no _ (by have := toNat_lt t'; omega))).kept hk2 hne).congr fun i hi => (upd_other _ _ _ _ (fun h => e h.1)).symm
  · by_cases e : t' = t ∧ a' = a
    · obtain ⟨rfl, rfl⟩ := e
      rw [upd_same, upd_same]
      have e3 : (lst t' a' ++ [b]).length = (lst t' a').length + 1 := by simp
      have e4 : ints (lst t' a' ++ [b]) = ints (lst t' a') ++ [.int .i64 b] := by simp [ints]
      rw [e3, e4]
      exact ownsRow_of_block ho fun q hq => hk2.block q (ownsRow_lt ho hq) (fun e => by
        simp only [Value.ownBlock, Option.some.injEq] at hq
        have : q = A + t'.toNat := e
        omega)
    · rw [upd_other _ _ _ _ e, upd_other _ _ _ _ e]
      have h3 := h.own t' a' ha'
      have h4 : w1.ownsRow (A + 2) 3 1 (fv t' a') (lst t' a').length (ints (lst t' a')) := ownsRow_of_block h3 fun q hq => hk1.block q (ownsRow_lt h3 hq) (fun e5 => e (h.inj t a t' a' q ha ha' e5 hq))
      exact ownsRow_of_block h4 fun q hq => hk2.block q (ownsRow_lt h4 hq) (fun e5 => by have := (hb t' a' ha' q hq).1; have : q = A + t.toNat := e5; omega)
  · by_cases f1 : t1 = t ∧ a1 = a
    · obtain ⟨rfl, rfl⟩ := f1
      rw [upd_same] at e1
      simp only [Value.ownBlock, Option.some.injEq] at e1
      subst e1
      by_cases f2 : t2 = t1 ∧ a2 = a1
      · exact f2
      · rw [upd_other _ _ _ _ f2] at e2
        exact absurd e2 (hng t2 a2 h2 f2)
    · rw [upd_other _ _ _ _ f1] at e1
      by_cases f2 : t2 = t ∧ a2 = a
      · obtain ⟨rfl, rfl⟩ := f2
        rw [upd_same] at e2
        simp only [Value.ownBlock, Option.some.injEq] at e2
        subst e2
        exact absurd e1 (hng t1 a1 h1 f1)
      · rw [upd_other _ _ _ _ f2] at e2
        exact h.inj t1 a1 t2 a2 q h1 h2 e1 e2

theorem G1.mid {A nn : Nat} {lst : Bool → Nat → List Nat} {fv : Bool → Nat → Value} {wr w1 : World} (h : G1 A nn lst fv wr) {t : Bool} {a : Nat} (ha : a < nn) (hg : wr.grownBy w1 (fv t a).ownBlock) (t' : Bool) : RowF w1 (A + t'.toNat) 27 nn (fv t') := by
  have hk1 : Kept (fun q => (fv t a).ownBlock = some q) wr w1 := (Kept.refl _ _).grown hg (fun k hk => .inl hk)
  exact (h.row t').kept hk1 (fun e => by have := ((h.own t a ha).lt _ e).1; have := toNat_lt t'; omega)

theorem G1.two {A nn : Nat} {lst : Bool → Nat → List Nat} {fv : Bool → Nat → Value} {wr : World} (h : G1 A nn lst fv wr) (o o' : Obj) : G1 A nn lst fv ((wr.alloc o).alloc o') :=
  h.kept (X := fun _ => False) (((Kept.refl _ _).alloc _).alloc _) (fun _ _ _ h => h)
theorem G1.one {A nn : Nat} {lst : Bool → Nat → List Nat} {fv : Bool → Nat → Value} {wr : World} (h : G1 A nn lst fv wr) (o : Obj) : G1 A nn lst fv (wr.alloc o) :=
  h.kept (X := fun _ => False) ((Kept.refl _ _).alloc _) (fun _ _ _ h => h)

/-- The cells of a new one-cell row, as append's law wants them. -/
theorem news_one (w : World) (v : Value) (H : Nat) (hH : H = w.heap.size) : ∀ j u, ([v] : List Value)[j]? = some u → (w.alloc (.cells #[v] 3)).cell? ((⟨H, 0, none⟩ : Addr).add j) = some u := by
  intro j u hu
  match j, hu with
  | 0, hu =>
    simp only [List.getElem?_cons_zero, Option.some.injEq] at hu
    subst hu
    show (w.alloc (.cells #[v] 3)).cell? ⟨H, 0, none⟩ = _
    rw [World.cell?_alloc_at (n := H) (hn := hH)]
    rfl
  | j + 1, hu => simp at hu

/-- The first loop's relation. -/
structure L1 (w : World) (nn k : Nat) (lst : Bool → Nat → List Nat) (fv : Bool → Nat → Value) (wr : World) : Prop where
  g : G1 w.heap.size nn lst fv wr
  up : Up (lst false) nn
  len : ∀ t a, (lst t a).length ≤ k
  kept : Kept (fun _ => False) w wr

theorem L1.step {w : World} {nn k : Nat} {lst : Bool → Nat → List Nat} {fv : Bool → Nat → Value} {wr : World} (h : L1 w nn k lst fv wr) {p q : Nat} (hp : p < nn) (hpq : p < q) (hq : q < nn) {o o' o'' : Obj} {w1 w2 : World} {v1 v2 : Value}
    (hg1 : ((wr.alloc o).alloc o').grownBy w1 (fv false p).ownBlock) (hg2 : ((w1.setCell ⟨w.heap.size, p, none⟩ v1).alloc o'').grownBy w2 (fv true q).ownBlock)
    (hG : G1 w.heap.size nn (upd (upd lst false p (lst false p ++ [q])) true q (lst true q ++ [p])) (upd (upd fv false p v1) true q v2) (w2.setCell ⟨w.heap.size + 1, q, none⟩ v2)) :
    ∃ lst' fv', L1 w nn (k + 1) lst' fv' (w2.setCell ⟨w.heap.size + 1, q, none⟩ v2) := by
  refine ⟨_, _, hG, fun c d hd => ?_, fun t c => ?_, ?_⟩
  · rw [upd_other _ _ _ _ (by simp)] at hd
    by_cases e : c = p
    · subst e
      rw [upd_same, List.mem_append, List.mem_singleton] at hd
      rcases hd with hd | rfl
      · exact h.up c d hd
      · exact ⟨hpq, hq⟩
    · rw [upd_other _ _ _ _ (fun h => e h.2)] at hd
      exact h.up c d hd
  · have h0 := h.len t c
    by_cases e : t = true ∧ c = q
    · obtain ⟨rfl, rfl⟩ := e
      rw [upd_same]
      simp only [List.length_append, List.length_singleton]
      omega
    · rw [upd_other _ _ _ _ e]
      by_cases e2 : t = false ∧ c = p
      · obtain ⟨rfl, rfl⟩ := e2
        rw [upd_same]
        simp only [List.length_append, List.length_singleton]
        omega
      · rw [upd_other _ _ _ _ e2]
        omega
  · have k1 : Kept (fun _ => False) w ((wr.alloc o).alloc o') := (h.kept.alloc _).alloc _
    have k2 : Kept (fun _ => False) w w1 := k1.grown hg1 fun b hb => .inr (by have := ((h.g.own false p hp).lt b hb).1; omega)
    have k3 : Kept (fun _ => False) w ((w1.setCell ⟨w.heap.size, p, none⟩ v1).alloc o'') := (k2.setCell (p := ⟨w.heap.size, p, none⟩) (.inr (Nat.le_refl _)) _).alloc _
    have k4 : Kept (fun _ => False) w w2 := k3.grown hg2 fun b hb => .inr (by have := ((h.g.own true q hq).lt b hb).1; omega)
    exact k4.setCell (p := ⟨w.heap.size + 1, q, none⟩) (.inr (by simp)) _

theorem L1.skip {w : World} {nn k : Nat} {lst : Bool → Nat → List Nat} {fv : Bool → Nat → Value} {wr : World} (h : L1 w nn k lst fv wr) (o : Obj) : L1 w nn (k + 1) lst fv (wr.alloc o) :=
  ⟨h.g.one o, h.up, fun t a => Nat.le_succ_of_le (h.len t a), h.kept.alloc o⟩

theorem make27 (n : Nat) (hn : n ≤ 65536) (w : World) : (Instr.makeSlice 24 (.int .i64 n) (.int .i64 n)).run Yba.prog w = .ok (.slice (some ⟨w.heap.size, 0, none⟩) n n) (w.alloc (.cells (madeCells #[.slice none 0 0] n) 27)) := by
  obtain ⟨i, hi, hz, hs, hb⟩ := info_parts' (show (Yba.prog.info? 27).map (fun i => (i.zero, i.size, i.bytes)) = some (some (.slice none 0 0), 1, 24) by kernel_rfl)
  have := run_make (P := Yba.prog) w 24 27 i _ Yba.underlying24 hi hz .i64 .i64 n n (by omega) (Int.le_refl _) (by rw [hb]; omega) (by omega)
  simpa [hs, Value.cells] using this
theorem make29 (n : Nat) (hn : n ≤ 65536) (w : World) : (Instr.makeSlice 28 (.int .i64 n) (.int .i64 n)).run Yba.prog w = .ok (.slice (some ⟨w.heap.size, 0, none⟩) n n) (w.alloc (.cells (madeCells #[.pointer none] n) 29)) := by
  obtain ⟨i, hi, hz, hs, hb⟩ := info_parts' (show (Yba.prog.info? 29).map (fun i => (i.zero, i.size, i.bytes)) = some (some (.pointer none), 1, 8) by kernel_rfl)
  have := run_make (P := Yba.prog) w 28 29 i _ Yba.underlying28 hi hz .i64 .i64 n n (by omega) (Int.le_refl _) (by rw [hb]; omega) (by omega)
  simpa [hs, Value.cells] using this
theorem make41 (n : Nat) (hn : n ≤ 65536) (w : World) : (Instr.makeSlice 39 (.int .i64 n) (.int .i64 n)).run Yba.prog w = .ok (.slice (some ⟨w.heap.size, 0, none⟩) n n) (w.alloc (.cells (madeCells #[.slice none 0 0] n) 41)) := by
  obtain ⟨i, hi, hz, hs, hb⟩ := info_parts' (show (Yba.prog.info? 41).map (fun i => (i.zero, i.size, i.bytes)) = some (some (.slice none 0 0), 1, 24) by kernel_rfl)
  have := run_make (P := Yba.prog) w 39 41 i _ Yba.underlying39 hi hz .i64 .i64 n n (by omega) (Int.le_refl _) (by rw [hb]; omega) (by omega)
  simpa [hs, Value.cells] using this

theorem G1.start (w : World) (nn : Nat) : G1 w.heap.size nn (fun _ _ => []) (fun _ _ => .slice none 0 0) ((w.alloc (.cells (madeCells #[.slice none 0 0] nn) 27)).alloc (.cells (madeCells #[.slice none 0 0] nn) 27)) := by
  refine ⟨fun t => ?_, fun t a ha => World.ownsRow_nil _ _ _ _, fun t a t' a' g _ _ e => by simp [Value.ownBlock] at e, by simp⟩
  cases t
  · exact (RowF.alloc_new w 27 _ nn (fun _ => .slice none 0 0) (by rw [toList_madeCells_one, replicate_range])).alloc _
  · have := RowF.alloc_new (w.alloc (.cells (madeCells #[.slice none 0 0] nn) 27)) 27 (madeCells #[.slice none 0 0] nn) nn (fun _ => .slice none 0 0) (by rw [toList_madeCells_one, replicate_range])
    rw [World.size_alloc] at this
    exact this
end Go.Proofs.Ybulkexnyi
