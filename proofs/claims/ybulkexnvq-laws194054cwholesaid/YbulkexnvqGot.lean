/-
  BYTES IN MEMORY; WHAT Keys HAS GATHERED SO FAR.
-/
import Derived.Test.YbulkexnvqSmall
import Derived.Test.YbulkexnvqLocks
import Derived.Laws.IdiomStrings
import Derived.WideShapes
import Derived.Deep.AppendLies
import Derived.Maps.RangeWalk
import Derived.Maps.OwnSet
import Derived.Maps.AppendAt
import Derived.Sort.KeysCollected
namespace Go.Proofs.Ybulkexnvq
open Go Go.RowKit

theorem mkHid {p : Prop} (h : p) : Hid p := h

/-- Block b begins with the bytes of s, none of them frozen. -/
def BytesAt (w : World) (b : Nat) (s : ByteArray) : Prop := ∀ j (h : j < s.data.toList.length), w.cell? ⟨b, j, none⟩ = some (.int .u8 (s.data.toList[j].toNat : Int)) ∧ w.frozen? ⟨b, j, none⟩ = false

theorem BytesAt.of_block {w w' : World} {b : Nat} {s : ByteArray} (h : BytesAt w b s) (e : w'.heap[b]? = w.heap[b]?) : BytesAt w' b s := fun j hj => by
  obtain ⟨h1, h2⟩ := h j hj
  refine ⟨(World.cell?_of_block (a := ⟨b, j, none⟩) e).trans h1, ?_⟩
  have : w'.frozen? ⟨b, j, none⟩ = w.frozen? ⟨b, j, none⟩ := by simp only [World.frozen?, e]
  rw [this, h2]

theorem BytesAt.kept {X : Nat → Prop} {w w' : World} {b : Nat} {s : ByteArray} (h : BytesAt w b s) (k : Kept X w w') (hx : ¬ X b) : BytesAt w' b s := fun j hj => by
  have hb := World.block_lt_of_cell? _ _ (h j hj).1
  exact (h.of_block (k.block b hb hx)) j hj

theorem size_list (s : ByteArray) : s.data.toList.length = s.size := by rw [Array.length_toList]; rfl

theorem conv_back (w : World) (b : Nat) (s : ByteArray) (cap : Nat) (h : BytesAt w b s) : (convert 35 9 (.slice (some ⟨b, 0, none⟩) s.size cap)).run Yba.prog w = .ok (.string s) w := by
  have := run_convert_bytes_back (P := Yba.prog) w 35 9 5 ⟨b, 0, none⟩ cap s.data.toList Yba.underlying35 Yba.underlying5 Yba.underlying9 (fun j hj => by
    have e : (⟨b, 0, none⟩ : Addr).add j = ⟨b, j, none⟩ := by rw [Go.WideShapes.add_plain, Nat.zero_add]
    rw [e]
    exact (h j hj).1)
  rw [size_list] at this
  simpa using this

/-- '[]byte(s)'. -/
theorem conv_str (w : World) (s : ByteArray) : (convert 9 35 (.string s)).run Yba.prog w = .ok (.slice (some ⟨w.heap.size, 0, none⟩) s.size (grownCap w s.size 0 5))
      (w.drew.alloc (.cells (bytesRow s (grownCap w s.size 0 5)) 5 ((bytesRow s (grownCap w s.size 0 5)).size, (bytesRow s (grownCap w s.size 0 5)).size + 1))) :=
  run_bytes_of_string (P := Yba.prog) w 9 35 5 s Yba.underlying9 Yba.underlying35 Yba.underlying5

theorem bytesRow_at (s : ByteArray) (cap j : Nat) (h : j < s.data.toList.length) : (bytesRow s cap)[j]? = some (.int .u8 (s.data.toList[j].toNat : Int)) := by
  have h1 : j < s.data.size := by rw [Array.length_toList] at h; exact h
  unfold bytesRow
  rw [Array.getElem?_append_left (by rw [Array.size_map]; exact h1), Array.getElem?_map, Array.getElem?_eq_getElem h1]
  rfl

theorem bytesRow_size (s : ByteArray) (cap : Nat) : s.size ≤ (bytesRow s cap).size := by
  unfold bytesRow
  rw [Array.size_append, Array.size_map]
  exact Nat.le_add_right _ _

theorem BytesAt.new (w : World) (s : ByteArray) (cap : Nat) : BytesAt (w.alloc (.cells (bytesRow s cap) 5 ((bytesRow s cap).size, (bytesRow s cap).size + 1))) w.heap.size s := fun j hj => by
  refine ⟨by rw [World.cell?_alloc_mark]; exact bytesRow_at s cap j hj, ?_⟩
  rw [World.frozen?_alloc_mark]
  have := bytesRow_size s cap
  rw [size_list] at hj
  simp
  omega

/-- What is gathered: the strings gl, each a slice of bytes of the call's own. -/
structure Got (X : Nat → Prop) (w wr : World) (v : Value) (gl : List ByteArray) (gv : List Value) : Prop where
  own : wr.ownsRow w.heap.size 35 1 v gl.length gv
  nil : v = Value.slice none 0 0 ↔ gl = []
  each : ∀ (j : Nat) (s : ByteArray), gl[j]? = some s → ∃ b c, gv[j]? = some (Value.slice (some ⟨b, 0, none⟩) s.size c) ∧ w.heap.size ≤ b ∧ b < wr.heap.size ∧ v.ownBlock ≠ some b ∧ BytesAt wr b s
  kept : Kept X w wr

theorem Got.start (X : Nat → Prop) (w : World) (wr : World) (k : Kept X w wr) : Got X w wr (.slice none 0 0) [] [] :=
  ⟨World.ownsRow_nil _ _ _ _, by simp, fun j s h => by simp at h, k⟩

section
variable {X Y : Nat → Prop} {w wr w2 : World} {v : Value} {gl : List ByteArray} {gv : List Value}

theorem Got.len (h : Got X w wr v gl gv) : gv.length = gl.length := by simpa using h.own.1

theorem Got.blk_lt (h : Got X w wr v gl gv) {g : Nat} (hg : v.ownBlock = some g) : w.heap.size ≤ g ∧ g < wr.heap.size := by
  rcases h.own.2 with ⟨rfl, _⟩ | ⟨g', cap, cur, rfl, hb, hc, _⟩
  · cases hg
  · simp [Value.ownBlock] at hg
    subst hg
    exact ⟨hb, (Array.getElem?_eq_some_iff.1 hc).1⟩

/-- While other blocks than those of the gathered are turned. -/
theorem Got.step (h : Got X w wr v gl gv) (k : Kept Y wr w2) (hY : ∀ b, Y b → X b ∧ b < w.heap.size) : Got X w w2 v gl gv := by
  have kk : Kept X w w2 := h.kept.then' k fun i _ hy => (hY i hy).1
  refine ⟨?_, h.nil, fun j s hj => ?_, kk⟩
  · refine ⟨h.own.1, ?_⟩
    rcases h.own.2 with h2 | ⟨g, cap, cur, rfl, hb, hc, r⟩
    · exact .inl h2
    · exact .inr ⟨g, cap, cur, rfl, hb, (k.block g (Array.getElem?_eq_some_iff.1 hc).1 fun hy => by have := (hY g hy).2; omega).trans hc, r⟩
  · obtain ⟨b, c, h1, h2, h3, h4, h5⟩ := h.each j s hj
    exact ⟨b, c, h1, h2, Nat.lt_of_lt_of_le h3 k.size, h4, h5.kept k (fun hy => by have := (hY b hy).2; omega)⟩

/-- One more, appended: s in block b. -/
theorem Got.more (h : Got X w wr v gl gv) {s : ByteArray} {b c g cap : Nat} (hb0 : w.heap.size ≤ b) (hb1 : b < wr.heap.size) (hbv : v.ownBlock ≠ some b) (hbs : BytesAt wr b s)
    (ho : w2.ownsRow w.heap.size 35 1 (.slice (some ⟨g, 0, none⟩) (gl.length + 1) cap) (gl.length + 1) (gv ++ [.slice (some ⟨b, 0, none⟩) s.size c])) (hg : wr.grownBy w2 v.ownBlock) (hat : v.ownBlock = some g ∨ g = wr.heap.size) :
    Got X w w2 (.slice (some ⟨g, 0, none⟩) (gl.length + 1) cap) (gl ++ [s]) (gv ++ [.slice (some ⟨b, 0, none⟩) s.size c]) := by
  have hlt : ∀ i, i < wr.heap.size → v.ownBlock ≠ some i → i ≠ g := fun i hi hv e => by
    rcases hat with h1 | h1
    · exact hv (e ▸ h1)
    · omega
  have ks : ∀ i, i < wr.heap.size → v.ownBlock ≠ some i → w2.heap[i]? = wr.heap[i]? := fun i hi hv => hg.block i hi fun e => hv e.symm
  refine ⟨by simpa using ho, by simp, fun j s' hj => ?_, ?_⟩
  · by_cases hjl : j < gl.length
    · rw [List.getElem?_append_left hjl] at hj
      obtain ⟨b', c', h1, h2, h3, h4, h5⟩ := h.each j s' hj
      refine ⟨b', c', ?_, h2, Nat.lt_of_lt_of_le h3 hg.size, ?_, h5.of_block (ks b' h3 h4)⟩
      · rw [List.getElem?_append_left (by rw [h.len]; exact hjl)]
        exact h1
      · simp only [Value.ownBlock]
        intro e
        simp only [Option.some.injEq] at e
        exact hlt b' h3 h4 e.symm
    · obtain ⟨hj1, rfl⟩ : j = gl.length ∧ s' = s := by
        have hl := (List.getElem?_eq_some_iff.1 hj).1
        simp at hl
        have : j = gl.length := by omega
        subst this
        simp at hj
        exact ⟨rfl, hj.symm⟩
      subst hj1
      refine ⟨b, c, ?_, hb0, Nat.lt_of_lt_of_le hb1 hg.size, ?_, hbs.of_block (ks b hb1 hbv)⟩
      · rw [← h.len]
        simp
      · simp only [Value.ownBlock]
        intro e
        simp only [Option.some.injEq] at e
        exact hlt b hb1 hbv e.symm
  · exact h.kept.grown hg fun k hk => .inr (h.blk_lt hk).1
end

theorem Got.rebase {X Y Z : Nat → Prop} {w w1 wr : World} {v : Value} {gl : List ByteArray} {gv : List Value} (h : Got X w1 wr v gl gv) (k : Kept Y w w1) (hY : ∀ b, b < w.heap.size → Y b → Z b) (hX : ∀ b, b < w.heap.size → X b → Z b) : Got Z w wr v gl gv := by
  have hs := k.size
  refine ⟨⟨h.own.1, ?_⟩, h.nil, fun j s hj => ?_, (k.weaken hY).then' h.kept hX⟩
  · rcases h.own.2 with h2 | ⟨g, cap, cur, rfl, hb, r⟩
    · exact .inl h2
    · exact .inr ⟨g, cap, cur, rfl, Nat.le_trans hs hb, r⟩
  · obtain ⟨b, c, h1, h2, r⟩ := h.each j s hj
    exact ⟨b, c, h1, Nat.le_trans hs h2, r⟩

theorem Kept.of_grown {w w' : World} {row : Option Nat} (h : w.grownBy w' row) : Kept (fun b => row = some b) w w' := ⟨h.os, h.tape, h.output, h.size, fun k hk hx => h.block k hk fun e => hx e.symm⟩

theorem Got.two {X : Nat → Prop} {w w2 : World} {v : Value} {gl : List ByteArray} {gv : List Value} (h : Got X w w2 v gl gv) (o1 o2 : Obj) : Got X w ((w2.alloc o1).alloc o2).drew v gl gv :=
  h.step (Y := fun _ => False) (((Kept.refl _ _).alloc o1).alloc o2).drew (fun _ h => h.elim)

theorem Got.one {X : Nat → Prop} {w w2 : World} {v : Value} {gl : List ByteArray} {gv : List Value} (h : Got X w w2 v gl gv) (o1 : Obj) : Got X w (w2.alloc o1) v gl gv :=
  h.step (Y := fun _ => False) ((Kept.refl _ _).alloc o1) (fun _ h => h.elim)

theorem info_parts' {P : Program} {e : TypeId} {z : Value} {sz by' : Nat} (h : (P.info? e).map (fun i => (i.zero, i.size, i.bytes)) = some (some z, sz, by')) : ∃ i, P.info? e = some i ∧ i.zero = some z ∧ i.size = sz ∧ i.bytes = by' := by
  obtain ⟨i, hi, h⟩ := Option.map_eq_some_iff.1 h
  simp only [Prod.mk.injEq] at h
  exact ⟨i, hi, h.1, h.2.1, h.2.2⟩

theorem news_one (w : World) (v : Value) (t : TypeId) (H : Nat) (hH : H = w.heap.size) : ∀ (j : Nat) (u : Value), ([v] : List Value)[j]? = some u → (w.alloc (.cells #[v] t)).cell? ((⟨H, 0, none⟩ : Addr).add j) = some u := by
  intro j u hu
  match j, hu with
  | 0, hu =>
    simp only [List.getElem?_cons_zero, Option.some.injEq] at hu
    subst hu
    show (w.alloc (.cells #[v] t)).cell? ⟨H, 0, none⟩ = _
    rw [World.cell?_alloc_at (n := H) (hn := hH)]
    rfl
  | j + 1, hu => simp at hu

theorem Yba.info35 : (Yba.prog.info? 35).map (fun i => (i.zero, i.size, i.bytes)) = some (some (.slice none 0 0), 1, 24) := by kernel_rfl
theorem Yba.info9 : (Yba.prog.info? 9).map (fun i => (i.zero, i.size, i.bytes)) = some (some (.string ⟨#[]⟩), 1, 16) := by kernel_rfl
theorem Yba.info42 : (Yba.prog.info? 42).map (fun i => (i.zero, i.size, i.bytes)) = some (some (.agg #[.nilIface, .int .i64 0, .int .i64 0]), 3, 32) := by kernel_rfl
theorem Yba.info36 : (Yba.prog.info? 36).map (fun i => (i.zero, i.size, i.bytes)) = some (some (.pointer none), 1, 8) := by kernel_rfl

theorem Got.door {tb : Nat} {w w1 wr : World} {v : Value} {gl : List ByteArray} {gv : List Value} (h : Got (fun b => b = w.heap.size) w1 wr v gl gv) (k : Kept (· = tb) w w1) (htb : tb < w1.heap.size) (u : Value) :
    Got (· = tb) w (wr.setCell ⟨tb, 0, none⟩ u) v gl gv := by
  have h1 : Got (fun b => b = w.heap.size ∨ b = tb) w1 wr v gl gv := h.rebase (Kept.refl (fun _ => False) w1) (fun _ _ h => h.elim) (fun _ _ h => .inl h)
  have h2 := h1.step (Y := (· = tb)) ((Kept.refl (· = tb) wr).setCell (p := ⟨tb, 0, none⟩) (.inl rfl) u) (fun b hb => ⟨.inr hb, hb ▸ htb⟩)
  exact h2.rebase k (fun _ _ h => h) (fun b hb h => by rcases h with h | h; · omega
                                                       · exact h)

theorem Below.toKept {w w' : World} (h : Below w.heap.size w w') : Kept (fun _ => False) w w' := ⟨h.os, h.tape, h.output, h.size, fun k hk _ => h.block k hk⟩

/-- bytes.Clone of a string's bytes. -/
theorem clone_any (s : ByteArray) (b c : Nat) (w : World) (hb : BytesAt w b s) (hs : s.size ≤ 140737488355328) :
    Calls Yba.prog 10 #[.slice (some ⟨b, 0, none⟩) s.size c] w fun e w' => ∃ g cap, e = .returned (.slice (some ⟨g, 0, none⟩) s.size cap) ∧ w.heap.size ≤ g ∧ g < w'.heap.size ∧ BytesAt w' g s ∧ Kept (fun _ => False) w w' := by
  have hl := size_list s
  refine (Yba.bytes_Clone_at ⟨b, 0, none⟩ s.size c (s.data.toList.map fun x => (x.toNat : Int)) w (by rw [List.length_map, hl]) hs ?_).mono ?_
  · intro i hi
    have hi' : i < s.data.toList.length := by omega
    rw [Go.WideShapes.add_plain, Nat.zero_add, (hb i hi').1]
    simp only [List.getD, List.getElem?_map, List.getElem?_eq_getElem hi', Option.map_some, Option.getD_some]
  · rintro e w' ⟨v', rfl, ho, hn, hbl⟩
    rcases ho.2 with ⟨h1, _⟩ | ⟨g, cap, cur, rfl, hg, hc, hcap, _, hsz, ht⟩
    · exact absurd h1 hn
    refine ⟨g, cap, rfl, hg, (Array.getElem?_eq_some_iff.1 hc).1, fun j hj => ⟨?_, ?_⟩, Below.toKept hbl⟩
    · have hj' : j < s.size := by omega
      have e1 : w'.cell? ⟨g, j, none⟩ = cur[j]? := by simp [World.cell?, hc]
      have e2 : cur[j]? = (cur.toList.take (s.size * 1))[j]? := by rw [List.getElem?_take_of_lt (by omega)]; simp
      rw [e1, e2, ht]
      simp [List.getElem?_eq_getElem hj]
    · simp [World.frozen?, hc]

/-- The sets as the law lays them. -/
structure SetsD where
  m : Nat
  kn : Nat → Nat
  lo : Nat → Nat
  hi : Nat → Nat
  S : Nat → Nat → ByteArray
  st : Nat → Nat
  kb : Nat → Nat
  bb : Nat → Nat → Nat
  bc : Nat → Nat → Nat

/-- The stands of the first k sets, all below B. -/
structure StandsAt (d : SetsD) (B k : Nat) (w : World) : Prop where
  st : ∀ x, x < k → d.st x < B ∧ w.cell? ⟨d.st x, 0, none⟩ = some (.slice (some ⟨d.kb x, 0, none⟩) (d.kn x) (d.kn x))
  kb : ∀ x, x < k → ∀ i, i < d.kn x → d.kb x < B ∧ w.cell? ⟨d.kb x, i, none⟩ = some (.slice (some ⟨d.bb x i, 0, none⟩) (d.S x i).size (d.bc x i))
  bb : ∀ x, x < k → ∀ i, i < d.kn x → d.bb x i < B ∧ BytesAt w (d.bb x i) (d.S x i)

theorem StandsAt.kept {d : SetsD} {B k : Nat} {X : Nat → Prop} {w w' : World} (h : StandsAt d B k w) (kp : Kept X w w') (hX : ∀ b, b < B → ¬ X b) : StandsAt d B k w' :=
  ⟨fun x hx => ⟨(h.st x hx).1, kp.cell (h.st x hx).2 (hX _ (h.st x hx).1)⟩, fun x hx i hi => ⟨(h.kb x hx i hi).1, kp.cell (h.kb x hx i hi).2 (hX _ (h.kb x hx i hi).1)⟩,
   fun x hx i hi => ⟨(h.bb x hx i hi).1, (h.bb x hx i hi).2.kept kp (hX _ (h.bb x hx i hi).1)⟩⟩

/-- The slice of the held sets. -/
def HsAt (d : SetsD) (hb : Nat) (w : World) : Prop := ∀ x, x < d.m → w.cell? ⟨hb, x * 3, none⟩ = some (.iface 36 (.pointer (some ⟨d.st x, 0, none⟩))) ∧ w.cell? ⟨hb, x * 3 + 1, none⟩ = some (.int .i64 (d.lo x)) ∧ w.cell? ⟨hb, x * 3 + 2, none⟩ = some (.int .i64 (d.hi x))

theorem HsAt.kept {d : SetsD} {hb : Nat} {X : Nat → Prop} {w w' : World} (h : HsAt d hb w) (kp : Kept X w w') (hX : ¬ X hb) : HsAt d hb w' := fun x hx =>
  ⟨kp.cell (h x hx).1 hX, kp.cell (h x hx).2.1 hX, kp.cell (h x hx).2.2 hX⟩

/-- How many keys the first k sets have. -/
def tot (kn : Nat → Nat) : Nat → Nat
  | 0 => 0
  | k + 1 => tot kn k + kn k

theorem tot_le (kn : Nat → Nat) {k m : Nat} (h : k ≤ m) : tot kn k ≤ tot kn m := by
  induction m with
  | zero => obtain rfl : k = 0 := by omega
            exact Nat.le_refl _
  | succ m ih =>
    by_cases e : k = m + 1
    · subst e; exact Nat.le_refl _
    · have := ih (by omega)
      simp only [tot]
      omega

/-- The keys j < i - lo of one set from lo on. -/
def part (d : SetsD) (x n : Nat) : List ByteArray := (List.range n).map fun j => d.S x (d.lo x + j)

theorem part_succ (d : SetsD) (x n : Nat) : part d x (n + 1) = part d x n ++ [d.S x (d.lo x + n)] := by simp [part, List.range_succ]

/-- The keys of the first k sets. -/
def upTo (d : SetsD) : Nat → List ByteArray
  | 0 => []
  | k + 1 => upTo d k ++ part d k (d.hi k - d.lo k)

theorem upTo_len (d : SetsD) (h : ∀ x, d.hi x ≤ d.kn x) : ∀ k, (upTo d k).length ≤ tot d.kn k
  | 0 => Nat.le_refl _
  | k + 1 => by
    have := upTo_len d h k
    have := h k
    simp only [upTo, tot, List.length_append, part, List.length_map, List.length_range]
    omega

/-- What is held alone in mode. -/
def HeldIn (D : DataW Unit) (left : Lit → Bool) (mode : Int) (gl : List ByteArray) : Prop :=
  gl.Nodup ∧ ∀ s, s ∈ gl ↔ (Maps.has D (.string s.data.toList) = true ∧ left (.string s.data.toList) = false ∧ D.atKey (.string s.data.toList) .nil = .lit (.int .u8 mode))

theorem HeldIn.start (D : DataW Unit) (mode : Int) : HeldIn D (Maps.has D) mode [] := ⟨List.nodup_nil, fun s => by cases Maps.has D (.string s.data.toList) <;> simp⟩

theorem str_inj {s t : ByteArray} (h : s.data.toList = t.data.toList) : s = t := by
  obtain ⟨⟨a⟩⟩ := s
  obtain ⟨⟨b⟩⟩ := t
  simp at h
  rw [h]

section
variable {D : DataW Unit} {left : Lit → Bool} {mode c : Int} {gl : List ByteArray} {s : ByteArray}

theorem HeldIn.take (h : HeldIn D left mode gl) (hlk : left (.string s.data.toList) = true) (hat : ∀ zd, D.atKey (.string s.data.toList) zd = .lit (.int .u8 mode)) :
    HeldIn D (fun z => left z && !z.sameKey (.string s.data.toList)) mode (gl ++ [s]) := by
  have hhas : Maps.has D (.string s.data.toList) = true := Maps.has_true_of_atKey hat
  have hnew : s ∉ gl := fun hx => by have := ((h.2 s).1 hx).2.1; rw [hlk] at this; cases this
  refine ⟨List.nodup_append.2 ⟨h.1, by simp, fun a ha b hb => by simp at hb; subst hb; exact fun e => hnew (e ▸ ha)⟩, fun t => ?_⟩
  by_cases e : t = s
  · subst e
    simp [hhas, Lit.sameKey, hat]
  · have e' : ¬ t.data = s.data := fun h => e (str_inj (by rw [h]))
    rw [List.mem_append, h.2 t]
    simp [e, e', Lit.sameKey]

theorem HeldIn.pass (h : HeldIn D left mode gl) (hat : ∀ zd, D.atKey (.string s.data.toList) zd = .lit (.int .u8 c)) (hc : c ≠ mode) :
    HeldIn D (fun z => left z && !z.sameKey (.string s.data.toList)) mode gl := by
  refine ⟨h.1, fun t => ?_⟩
  rw [h.2 t]
  by_cases e : t = s
  · subst e
    simp [hat, hc]
  · have e' : ¬ t.data = s.data := fun h => e (str_inj (by rw [h]))
    simp [e', Lit.sameKey]
end
end Go.Proofs.Ybulkexnvq
