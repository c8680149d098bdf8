/-
  locks.LawS194054CWhole: THE ITEMS JOINED.
-/
import Derived.Test.YbulkexnvqJoin
namespace Go.Proofs.Ybulkexnvq
open Go Go.RowKit Go.Maps

theorem mem_upTo (d : SetsD) {s : ByteArray} : ∀ k, s ∈ upTo d k → ∃ x i, s = d.S x i
  | 0, h => by simp [upTo] at h
  | k + 1, h => by
    simp only [upTo, List.mem_append] at h
    rcases h with h | h
    · exact mem_upTo d k h
    · simp only [part, List.mem_map] at h
      obtain ⟨j, _, rfl⟩ := h
      exact ⟨k, _, rfl⟩

set_option maxRecDepth 100000 in
set_option maxHeartbeats 3200000 in
theorem law_main (I : Inp) (w0 : World) (hin : InAt I w0) (hn : I.n ≤ 4096) (hm : I.m ≤ 4096) (hM : ∀ i, i < I.n → I.M i ≤ 255) (hK : ∀ i, (I.K i).size ≤ 140737488355328) (hkn : ∀ k, k < I.m → I.kn k ≤ 140737488355328) (hS : ∀ k i, (I.S k i).size ≤ 140737488355328) :
    Calls Yba.prog 3 #[.slice I.ha I.n I.hc, .slice I.sa I.m I.sc, .int .u8 I.mode] w0 fun e w' => e = .returned (.bool true) ∧ Below w0.heap.size w0 w' := by
  have hK' : ∀ i, (I.K i).size ≤ maxLen := fun i => Nat.le_trans (hK i) (by unfold maxLen; decide)
  go_enter Yba.func3, Yba.ntmps3
  generalize ha : Act.mk _ _ = a
  have s0 : Sm a (.slice I.ha I.n I.hc) (.slice I.sa I.m I.sc) (.int .u8 I.mode) undef undef undef undef undef undef undef undef undef undef undef := by
    subst ha
    exact ⟨⟨rfl, rfl⟩, rfl, rfl, rfl, rfl, rfl, rfl, rfl, rfl, rfl, rfl, rfl, rfl, rfl, rfl⟩
  clear ha
  show Code.wp Yba.prog (.seq (item 0) (.seq (item 1) (.seq (item 2) (.seq (item 3) (.seq (item 4) (.seq (item 5) (.seq (item 6) (.seq (item 7) (.seq (item 8) (.seq (item 9) (.seq (item 10) (.seq (item 11) (.seq (item 12) (.seq (item 13) (.seq (item 14) (.seq (item 15) (.seq (item 16) (.seq (item 17) (.seq (item 18) (.seq (item 19) (.seq (item 20) (.seq (item 21) (.seq (item 22) (tailAt 23)))))))))))))))))))))))) _ a w0
  refine wp_then (i0 _ _ _ _ _ _ _ _ _ _ _ _ _ _ w0 a s0) (fun _ _ _ h => h.1) ?_
  rintro a1 w1 ⟨_, s1, e1⟩
  obtain rfl := e1.symm
  refine wp_then (i1 _ _ _ _ _ _ _ _ _ _ _ _ _ _ _ _ _ _ w0 a1 s1 hn hm) (fun _ _ _ h => h.1) ?_
  rintro a2 w2 ⟨_, s2, e2⟩
  obtain rfl := e2.symm
  refine wp_then (i2 _ _ _ _ _ _ _ _ _ _ _ _ _ _ w0 a2 s2) (fun _ _ _ h => h.1) ?_
  rintro a3 w3 ⟨_, s3, c7, e3⟩
  obtain rfl := e3.symm
  refine wp_seq (Code.wp_mono ?_ (i3 I _ _ _ _ _ _ _ _ _ _ _ _ _ w0 w0 a3 s3 c7 hin (Below.refl _ _) hm hkn))
  rintro x a4 w4 ⟨k4, ⟨rfl, s4, htot⟩ | ⟨rfl, f4, c6⟩⟩
  rotate_left
  · exact ret_true (fun e w' => e = .returned (.bool true) ∧ Below w0.heap.size w0 w') w4 a4 f4 c6 ⟨rfl, k4.below (fun _ _ h => h) (Nat.le_refl _)⟩
  show Code.wp Yba.prog _ _ a4 w4
  have b4 : Below w0.heap.size w0 w4 := k4.below (fun _ _ h => h) (Nat.le_refl _)
  refine wp_then (i4 _ _ _ _ _ _ _ _ _ _ _ _ _ _ w4 a4 s4) (fun _ _ _ h => h.1) ?_
  rintro a5 w5 ⟨_, s5, e5⟩
  obtain rfl := e5.symm
  refine wp_then (i5 _ _ _ _ _ _ _ _ _ _ _ _ _ _ w4 a5 s5) (fun _ _ _ h => h.1) ?_
  rintro a6 w6 ⟨_, s6, rfl⟩
  have k46 : Kept (fun _ => False) w4 (w4.alloc (.map #[] 0)) := (Kept.refl _ _).alloc _
  have b6 := Below.kept' b4 k46 (fun _ _ h => h) (Nat.le_refl _)
  have hsz4 := k4.size
  refine wp_then (i6 I w4.heap.size _ _ _ _ _ _ _ _ _ _ _ _ w0 _ a6 s6 hin b6 hn (fun i _ => hK' i) hM hsz4 (World.ownsMap_made w4 _ _ _)) (fun _ _ _ h => h.1) ?_
  rintro a7 w7 ⟨_, s7, o7, k7⟩
  have b7 := Below.kept' b6 k7 (fun b hb e => by omega) (Nat.le_refl _)
  refine wp_then (i7 _ _ _ _ _ _ _ _ _ _ _ _ _ _ w7 a7 s7) (fun _ _ _ h => h.1) ?_
  rintro a8 w8 ⟨_, s8, e8⟩
  obtain rfl := e8.symm
  refine wp_then (i8 _ _ _ _ _ _ _ _ _ _ _ _ _ _ w7 a8 s8) (fun _ _ _ h => h.1) ?_
  rintro a9 w9 ⟨_, s9, e9⟩
  obtain rfl := e9.symm
  refine wp_then (i9 _ _ _ _ _ _ _ _ _ _ _ _ _ _ w7 a9 s9) (fun _ _ _ h => h.1) ?_
  rintro a10 w10 ⟨_, s10, e10⟩
  obtain rfl := e10.symm
  refine wp_then (seg10 I _ _ w0 w7 a10 s10.fr s10.c0 s10.c1 s10.c10 s10.c11 s10.c14 s10.c15 s10.c16 hin b7 hm htot) (fun _ _ _ h => h.1) ?_
  rintro a11 wB ⟨_, f11, ⟨d0', d1, d10, d11⟩, st, kb, bb, bc, hB⟩
  have bB := Below.kept' b7 hB.kept (fun _ _ h => h) (Nat.le_refl _)
  have s11 : Sm a11 (.slice I.ha I.n I.hc) (.slice I.sa I.m I.sc) (cell a11 2) (.int .u8 I.mode) (.map (some w4.heap.size)) (cell a11 14) (cell a11 15) (cell a11 16) (cell a11 27) (cell a11 28) (cell a11 33) (cell a11 34) (cell a11 35) (cell a11 36) :=
    ⟨f11, d0', d1, rfl, d10, d11, rfl, rfl, rfl, rfl, rfl, rfl, rfl, rfl, rfl⟩
  generalize cell a11 14 = v14 at s11 hB
  generalize cell a11 15 = v15 at s11 hB
  generalize cell a11 16 = v16 at s11 hB
  refine wp_then (i11 _ _ _ _ _ _ _ _ _ _ _ _ _ _ wB a11 s11) (fun _ _ _ h => h.1) ?_
  rintro a12 w12 ⟨_, s12, e12⟩
  obtain rfl := e12.symm
  refine wp_then (i12 _ _ _ _ _ _ _ _ _ _ _ _ _ _ wB a12 s12) (fun _ _ _ h => h.1) ?_
  rintro a13 w13 ⟨_, s13, e13⟩
  obtain rfl := e13.symm
  refine wp_then (seg13 I _ _ _ _ _ w0 wB a13 s13.fr s13.c0 s13.c1 s13.c10 s13.c11 s13.c14 s13.c15 s13.c16 s13.c27 s13.c28 hin bB hn) (fun _ _ _ h => h.1) ?_
  rintro a14 wC ⟨_, f14, ⟨g0, g1, g10, g11, g14, g15, g16⟩, o27, g28, kC⟩
  obtain ⟨o14, k14, rfl, r14⟩ := ownsRow_shape hB.o14
  obtain ⟨o15, k15, rfl, r15⟩ := ownsRow_shape hB.o15
  obtain ⟨o16, k16, rfl, r16⟩ := ownsRow_shape hB.o16
  obtain ⟨p27, k27, h27, r27⟩ := ownsRow_shape o27
  have o27' := o27
  rw [h27] at o27
  have hszBC := kC.size
  have hB7 : w7.heap.size ≤ wB.heap.size := hB.kept.size
  have hmb : w4.heap.size < w7.heap.size := o7.lt
  obtain ⟨hbk, hhb, hhb0⟩ : ∃ hb, (0 < I.m → o14 = some ⟨hb, 0, none⟩ ∧ hb < wB.heap.size ∧ ∀ (j : Nat) (u : Value), (hsCells (dOf I st kb bb bc) I.m)[j]? = some u → wB.cell? ⟨hb, j, none⟩ = some u) ∧ hb < wB.heap.size := by
    by_cases hp : 0 < I.m
    · obtain ⟨g, q1, _, q3, q4⟩ := r14 hp
      exact ⟨g, fun _ => ⟨q1, q3, q4⟩, q3⟩
    · exact ⟨0, fun h => absurd h hp, by omega⟩
  obtain ⟨sbk, hsb, hsb0⟩ : ∃ sb, (0 < I.m → o15 = some ⟨sb, 0, none⟩ ∧ sb < wB.heap.size ∧ ∀ (j : Nat) (u : Value), (stCells (dOf I st kb bb bc) I.m)[j]? = some u → wB.cell? ⟨sb, j, none⟩ = some u) ∧ sb < wB.heap.size := by
    by_cases hp : 0 < I.m
    · obtain ⟨g, q1, _, q3, q4⟩ := r15 hp
      exact ⟨g, fun _ => ⟨q1, q3, q4⟩, q3⟩
    · exact ⟨0, fun h => absurd h hp, by omega⟩
  have s14 : Sm a14 (.slice I.ha I.n I.hc) (.slice I.sa I.m I.sc) (cell a14 2) (.int .u8 I.mode) (.map (some w4.heap.size)) (.slice o14 I.m k14) (.slice o15 I.m k15) (.slice o16 (wantS I I.m).length k16) (.slice p27 (pick I.K I.n (wantP I) I.n).length k27) (.int .i64 ((pick I.K I.n (fun _ => true) I.n).length)) (cell a14 33) (cell a14 34) (cell a14 35) (cell a14 36) :=
    ⟨f14, g0, g1, rfl, g10, g11, g14, g15, g16, h27, g28, rfl, rfl, rfl, rfl⟩
  refine wp_then (i14 w4.heap.size o14 I.m k14 _ _ _ _ _ _ _ _ _ _ _ _ wC a14 s14) (fun _ _ _ h => h.1) ?_
  rintro a15 wD ⟨_, s15, L⟩
  have kBD : Kept (fun _ => False) wB wD := kC.trans L.kept
  have hszCD := L.size
  have hstD : StandsAt (dOf I st kb bb bc) wB.heap.size I.m wD := hB.stands.kept kBD (fun _ _ h => h)
  have hhsD : HsAt (dOf I st kb bb bc) hbk wD := fun x hx => by
    obtain ⟨_, _, q⟩ := hhb (Nat.lt_of_le_of_lt (Nat.zero_le _) hx)
    have g := hsCells_get (dOf I st kb bb bc) I.m x hx
    exact ⟨kBD.cell (q (x * 3) _ (by have := g 0 (by decide); rw [Nat.add_zero] at this; rw [this]; rfl)) (fun h => h), kBD.cell (q (x * 3 + 1) _ (by rw [g 1 (by decide)]; rfl)) (fun h => h), kBD.cell (q (x * 3 + 2) _ (by rw [g 2 (by decide)]; rfl)) (fun h => h)⟩
  have k7D : Kept (fun _ => False) w7 wD := hB.kept.trans kBD
  have hmD : wD.ownsMap Yba.prog 9 (plainElem Yba.prog 27) w4.heap.size I.n (Dn I.K I.M I.n) := ownsMap_block o7 (k7D.block _ hmb (fun h => h))
  have hkeys := keys_any (dOf I st kb bb bc) (wC.heap.size + 1) wC.heap.size w4.heap.size hbk wB.heap.size o14 k14 I.n I.mode (Dn I.K I.M I.n) wD (fun hp => (hhb hp).1) L.o0 L.o2 L.o5 L.t0 L.tf hmD hn hm hhsD hstD hszBC (by omega) (by omega) (by omega) htot (fun x => clampN_le _ _) hS
  refine wp_then (i15 (dOf I st kb bb bc) (Dn I.K I.M I.n) I.mode (wC.heap.size + 1) wC.heap.size _ _ _ _ _ _ _ _ _ _ _ _ wD a15 s15 hkeys) (fun _ _ _ h => h.1) ?_
  rintro a16 wE ⟨_, v, gh, gv, s16, hH, hgh, hGot⟩
  refine wp_then (i16 _ _ _ _ _ _ _ _ _ _ _ _ _ _ _ _ _ _ wE a16 s16) (fun _ _ _ h => h.1) ?_
  rintro a17 w17 ⟨_, s17, e17⟩
  obtain rfl := e17.symm
  have hsw : (if I.mode = 2 then upTo (dOf I st kb bb bc) (dOf I st kb bb bc).m else []) = wantS I I.m := by
    unfold wantS
    rw [upTo_dOf]
    rfl
  rw [hsw] at hGot
  have hperm : gh.Perm (pick I.K I.n (wantP I) I.n) := held_perm hH
  have lgh := hperm.length_eq
  have lhw := pick_le (K := I.K) I.n (wantP I) I.n
  have lsw : (wantS I I.m).length ≤ 65536 := by
    unfold wantS
    split
    · exact Nat.le_trans (upTo_len (d0 I) (fun x => clampN_le _ _) I.m) htot
    · simp
  have kDE := hGot.kept
  have hszDE := kDE.size
  obtain ⟨hwb, hhw⟩ : ∃ hwb, 0 < (pick I.K I.n (wantP I) I.n).length → p27 = some ⟨hwb, 0, none⟩ ∧ StrRow wE hwb (pick I.K I.n (wantP I) I.n) ∧ hwb < wC.heap.size ∧ wB.heap.size ≤ hwb := by
    rcases StrRow.of_own o27 rfl with ⟨_, q2⟩ | ⟨g, cap, q1, q2, q3⟩
    · exact ⟨0, fun h => by rw [q2] at h; simp at h⟩
    · simp only [Value.slice.injEq] at q1
      have q4 := q3.lt
      exact ⟨g, fun _ => ⟨q1.1, (q3.kept L.kept (fun h => h)).kept kDE (fun e => by omega), q4, q2⟩⟩
  obtain ⟨swb, hsw2⟩ : ∃ swb, 0 < (wantS I I.m).length → o16 = some ⟨swb, 0, none⟩ ∧ StrRow wE swb (wantS I I.m) ∧ swb < wB.heap.size := by
    rcases StrRow.of_own hB.o16 rfl with ⟨_, q2⟩ | ⟨g, cap, q1, q2, q3⟩
    · exact ⟨0, fun h => by rw [q2] at h; simp at h⟩
    · simp only [Value.slice.injEq] at q1
      have q4 := q3.lt
      exact ⟨g, fun _ => ⟨q1.1, (q3.kept kBD (fun h => h)).kept kDE (fun e => by omega), q4⟩⟩
  have hsize : ∀ s ∈ gh ++ wantS I I.m, s.size ≤ 140737488355328 := fun s hs => by
    rcases List.mem_append.1 hs with hs | hs
    · obtain ⟨i, _, rfl, _⟩ := mem_pick.1 (hperm.mem_iff.1 hs)
      exact hK i
    · unfold wantS at hs
      split at hs
      · obtain ⟨x, i, rfl⟩ := mem_upTo _ _ hs
        exact hS x i
      · simp at hs
  have hlen : (gh ++ wantS I I.m).length = (pick I.K I.n (wantP I) I.n).length + (wantS I I.m).length := by rw [List.length_append, lgh]
  have sl17 : Sl a17 (.slice I.ha I.n I.hc) (.slice I.sa I.m I.sc) (.slice o15 I.m k15) (.slice o16 (wantS I I.m).length k16) (.slice p27 (pick I.K I.n (wantP I) I.n).length k27) (.int .i64 ((pick I.K I.n (fun _ => true) I.n).length)) (.pointer (some ⟨wC.heap.size + 1, 0, none⟩)) v (.int .i64 ((pick I.K I.n (wantP I) I.n).length)) (.int .i64 ((wantS I I.m).length)) (cell a17 37) :=
    ⟨s17.fr, s17.c0, s17.c1, s17.c15, s17.c16, s17.c27, s17.c28, s17.c33, s17.c34, s17.c35, s17.c36, rfl⟩
  refine wp_then (seg17 _ _ hwb k27 swb k16 wD.heap.size wE.heap.size p27 o16 gh (pick I.K I.n (wantP I) I.n) (wantS I I.m) _ _ _ _ _ _ _ wE a17 sl17 (by omega) lsw lgh rfl rfl hperm hszDE (Nat.le_refl _)
    (fun h0 => hGot.nil.2 (List.length_eq_zero_iff.1 (by rw [hlen]; exact h0)))
    (fun hp => by
      obtain ⟨gblk, gcap, gb, gc, q1, q2⟩ := got_at hGot (fun e => by rw [e] at hlen; simp only [List.length_nil] at hlen; omega)
      rw [hlen] at q1
      exact ⟨gblk, gcap, gb, gc, q1, q2⟩)
    (fun hp => ⟨(hhw hp).1, (hhw hp).2.1, by have := (hhw hp).2.2.1; omega⟩) (fun hp => ⟨(hsw2 hp).1, (hsw2 hp).2.1, by have := (hsw2 hp).2.2; omega⟩) (fun h1 h2 => by have := (hhw h1).2.2.2; have := (hsw2 h2).2.2; omega) hsize) (fun _ _ _ h => h.1) ?_
  rintro a18 wF ⟨_, f18, ⟨m0, m1, m15, m28, m33⟩, kF⟩
  have loF : ∀ b, b < wB.heap.size → ¬ ((0 < (pick I.K I.n (wantP I) I.n).length ∧ b = hwb) ∨ wD.heap.size ≤ b) := fun b hb e => by
    rcases e with ⟨h1, rfl⟩ | h
    · have := (hhw h1).2.2.2; omega
    · omega
  have kDF : Kept (fun b => b = wC.heap.size ∨ (0 < (pick I.K I.n (wantP I) I.n).length ∧ b = hwb) ∨ wD.heap.size ≤ b) wD wF := (kDE.weaken (fun _ _ h => .inl h)).then' kF (fun _ _ h => .inr h)
  have loDF : ∀ b, b < wB.heap.size → ¬ (b = wC.heap.size ∨ (0 < (pick I.K I.n (wantP I) I.n).length ∧ b = hwb) ∨ wD.heap.size ≤ b) := fun b hb e => by
    rcases e with h | h
    · omega
    · exact loF b hb h
  have obF : ¬ (wC.heap.size + 1 = wC.heap.size ∨ (0 < (pick I.K I.n (wantP I) I.n).length ∧ wC.heap.size + 1 = hwb) ∨ wD.heap.size ≤ wC.heap.size + 1) := fun e => by
    rcases e with h | ⟨h1, h2⟩ | h
    · omega
    · have := (hhw h1).2.2.1; omega
    · omega
  have hw0B : w0.heap.size ≤ wB.heap.size := bB.size
  have bD := Below.kept' bB kBD (fun _ _ h => h) (Nat.le_refl _)
  have bF := Below.kept' bD kDF (fun b hb => loDF b (by omega)) (Nat.le_refl _)
  have o2F := kDF.cell L.o2 obF
  have o5F := kDF.cell L.o5 obF
  have hmF : wF.ownsMap Yba.prog 9 (plainElem Yba.prog 27) w4.heap.size I.n (Dn I.K I.M I.n) := ownsMap_block hmD (kDF.block _ hmD.lt (loDF _ (by omega)))
  have hstF := hstD.kept kDF loDF
  have hhsF := hhsD.kept kDF (loDF _ hhb0)
  have hkn2 : ∀ k, k < I.m → I.kn k ≤ 65536 := fun k hk => by
    have h2 := tot_le I.kn (show k + 1 ≤ I.m by omega)
    simp only [tot] at h2
    omega
  refine wp_then (seg18 I (dOf I st kb bb bc) wB.heap.size sbk k15 o15 _ _ _ w0 wF a18 f18 m0 m1 m15 m28 m33 hin bF (fun hp => (hsb hp).1) (fun k hk => kDF.cell (kBD.cell ((hsb (by omega)).2.2 k _ (stCells_get _ _ k hk)) (fun h => h)) (loDF _ hsb0)) hstF rfl rfl hm hkn2) (fun _ _ _ h => h.1) ?_
  rintro a19 wG ⟨_, f19, ⟨n0, n1, n15, n28, n33⟩, kG⟩
  have hmG := ownsMap_block hmF (kG.block _ hmF.lt (fun h => h))
  have esz := size_pick hmG (string_keyed Yba.underlying9) Yba.underlying9
  rw [← esz] at n28
  refine wp_then (seg19 (Dn I.K I.M I.n) (wC.heap.size + 1) w4.heap.size I.n _ _ _ wG a19 f19 n0 n1 n15 n28 n33 (kG.cell o2F (fun h => h)) hmG) (fun _ _ _ h => h.1) ?_
  rintro a20 wH ⟨_, f20, ⟨q0, q1, q15, q28, q33⟩, kH⟩
  have kFH := kG.trans kH
  have bH := Below.kept' bF kFH (fun _ _ h => h) (Nat.le_refl _)
  refine wp_then (seg20 I (wC.heap.size + 1) w4.heap.size I.n _ _ _ w0 wH a20 f20 q0 q1 q15 q28 q33 hin bH (kFH.cell o2F (fun h => h)) (ownsMap_block hmF (kFH.block _ hmF.lt (fun h => h))) hn hK') (fun _ _ _ h => h.1) ?_
  rintro a21 wI ⟨_, f21, ⟨r0, r1, r15', r28, r33⟩, kI⟩
  have kFI := kFH.trans kI
  refine wp_then (seg21 I (wC.heap.size + 1) k14 o14 _ _ _ wI a21 f21 r0 r1 r15' r28 r33 (kFI.cell o5F (fun h => h))) (fun _ _ _ h => h.1) ?_
  rintro a22 wJ ⟨_, f22, ⟨t0, t1, t15, t28, t33⟩, kJ⟩
  have kFJ := kFI.trans kJ
  have bJ := Below.kept' bF kFJ (fun _ _ h => h) (Nat.le_refl _)
  refine wp_then (segG I (dOf I st kb bb bc) (wC.heap.size + 1) hbk k14 o14 w0 wJ a22 f22 t1 t33 hin bJ (kFJ.cell o5F (fun h => h)) (fun hp => (hhb hp).1) (hhsF.kept kFJ (fun h => h)) rfl hm (fun _ => rfl) (fun _ => rfl)) (fun _ _ _ h => h.1) ?_
  rintro a23 wK ⟨_, f23, kK⟩
  exact i23 _ wK a23 f23 ⟨rfl, Below.kept' bJ kK (fun _ _ h => h) (Nat.le_refl _)⟩
end Go.Proofs.Ybulkexnvq
