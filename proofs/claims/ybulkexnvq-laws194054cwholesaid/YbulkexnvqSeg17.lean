/-
  THE LAW's ITEM 17, JOINED.
-/
import Derived.Test.YbulkexnvqCmp
import Derived.Laws.Cover3
namespace Go.Proofs.Ybulkexnvq
open Go Go.RowKit

theorem wp_then {c1 c2 : Code} {a : Act} {w : World} {P1 Q : Exit → Act → World → Prop} (h : Code.wp Yba.prog c1 P1 a w) (hx : ∀ x a' w', P1 x a' w' → x = .normal) (hn : ∀ a' w', P1 .normal a' w' → Code.wp Yba.prog c2 Q a' w') : Code.wp Yba.prog (.seq c1 c2) Q a w := by
  refine wp_seq (Code.wp_mono (fun e a' w' hp => ?_) h)
  obtain rfl := hx e a' w' hp
  exact hn a' w' hp

/-- Left by an item: the slots that matter from item 18 on; X: what it may have turned. -/
def PostX (X : Nat → Prop) (v0 v1 v15 v28 v33 : Value) (w : World) (x : Exit) (a' : Act) (w' : World) : Prop :=
  x = .normal ∧ Fr a' ∧ (cell a' 0 = v0 ∧ cell a' 1 = v1 ∧ cell a' 15 = v15 ∧ cell a' 28 = v28 ∧ cell a' 33 = v33) ∧ Kept X w w'

theorem Sl.five {a : Act} {v0 v1 v15 v16 v27 v28 v33 v34 v35 v36 v37 : Value} (h : Sl a v0 v1 v15 v16 v27 v28 v33 v34 v35 v36 v37) : cell a 0 = v0 ∧ cell a 1 = v1 ∧ cell a 15 = v15 ∧ cell a 28 = v28 ∧ cell a 33 = v33 := ⟨h.c0, h.c1, h.c15, h.c28, h.c33⟩

def Post61 (v0 v1 v15 v16 v27 v28 v33 v34 v35 v36 v37 : Value) (b : Bool) (w : World) (x : Exit) (a' : Act) (w' : World) : Prop := x = .normal ∧ Sl a' v0 v1 v15 v16 v27 v28 v33 v34 v35 v36 v37 ∧ cell a' 210 = .bool b ∧ w' = w

set_option maxRecDepth 100000 in
set_option maxHeartbeats 3200000 in
theorem r61 (nh ns : Nat) (v0 v1 v15 v16 v27 v28 v33 v34 v37 : Value) (w : World) (a : Act) (h : Sl a v0 v1 v15 v16 v27 v28 v33 v34 (.int .i64 nh) (.int .i64 ns) v37) (hn : nh ≤ 4096) (hs : ns ≤ 65536) :
    Code.wp Yba.prog (fstC (item 17)) (Post61 v0 v1 v15 v16 v27 v28 v33 v34 (.int .i64 nh) (.int .i64 ns) v37 (decide (nh + ns = 0)) w) a w := by
  obtain ⟨fr, c0, c1, c15, c16, c27, c28, c33, c34, c35, c36, c37⟩ := h
  rw [fr.open']
  unfold listF
  rw [c0, c1, c15, c16, c27, c28, c33, c34, c35, c36, c37]
  clear c0 c1 c15 c16 c27 c28 c33 c34 c35 c36 c37 fr
  generalize cell a = f
  clear a
  conv => arg 2; whnf
  by_cases hz : nh + ns = 0
  · have hz' : (nh : Int) + (ns : Int) = 0 := by omega
    go_wp2
    rw [decide_eq_true hz]
    exact ⟨rfl, ⟨⟨rfl, rfl⟩, rfl, rfl, rfl, rfl, rfl, rfl, rfl, rfl, rfl, rfl, rfl⟩, rfl, rfl⟩
  · have hz' : ¬ (nh : Int) + (ns : Int) = 0 := by omega
    have hz2 := decide_eq_false hz'
    have hz3 : ((nh : Int) + (ns : Int) == 0) = false := by simpa using hz'
    go_wp2
    rw [decide_eq_false hz]
    exact ⟨rfl, ⟨⟨rfl, rfl⟩, rfl, rfl, rfl, rfl, rfl, rfl, rfl, rfl, rfl, rfl, rfl⟩, rfl, rfl⟩

set_option maxRecDepth 100000 in
set_option maxHeartbeats 3200000 in
theorem r62 (v0 v1 v15 v16 v27 v28 v33 v35 v36 v37 : Value) (w : World) (a : Act) (h : Sl a v0 v1 v15 v16 v27 v28 v33 (.slice none 0 0) v35 v36 v37) :
    Code.wp Yba.prog (thenC (sndC (item 17))) (PostE v0 v1 v15 v16 v27 v28 v33 (.slice none 0 0) v35 v36 v37 (fun w' => w' = w)) a w := by
  obtain ⟨fr, c0, c1, c15, c16, c27, c28, c33, c34, c35, c36, c37⟩ := h
  rw [fr.open']
  unfold listF
  rw [c0, c1, c15, c16, c27, c28, c33, c34, c35, c36, c37]
  clear c0 c1 c15 c16 c27 c28 c33 c34 c35 c36 c37 fr
  generalize cell a = f
  clear a
  conv => arg 2; whnf
  have q2 := fun a l c w => run_neq_slice_nil (P := Yba.prog) w 34 35 a l c Yba.underlying34
  go_wp2
  exact ⟨rfl, ⟨⟨rfl, rfl⟩, rfl, rfl, rfl, rfl, rfl, rfl, rfl, rfl, rfl, rfl, rfl⟩, rfl⟩

theorem seg17 (nh ns hwb hcap swb scap Bk Tk : Nat) (hwo swo : Option Addr) (gh hw sw : List ByteArray) (v0 v1 v15 v28 v33 v34 v37 : Value) (w : World) (a : Act) (h : Sl a v0 v1 v15 (.slice swo ns scap) (.slice hwo nh hcap) v28 v33 v34 (.int .i64 nh) (.int .i64 ns) v37)
    (hn : nh ≤ 4096) (hs : ns ≤ 65536) (lgh : gh.length = nh) (lhw : hw.length = nh) (lsw : sw.length = ns) (hperm : gh.Perm hw) (hB : Bk ≤ Tk) (hT : Tk ≤ w.heap.size)
    (hnil : nh + ns = 0 → v34 = .slice none 0 0) (hsome : 0 < nh + ns → ∃ gblk gcap gb gc, v34 = .slice (some ⟨gblk, 0, none⟩) (nh + ns) gcap ∧ GotAt (gh ++ sw) gb gc gblk Bk Tk w)
    (h27 : 0 < nh → hwo = some ⟨hwb, 0, none⟩ ∧ StrRow w hwb hw ∧ hwb < Bk) (h16 : 0 < ns → swo = some ⟨swb, 0, none⟩ ∧ StrRow w swb sw ∧ swb < Bk) (hne : 0 < nh → 0 < ns → swb ≠ hwb)
    (hsz : ∀ s ∈ gh ++ sw, s.size ≤ 140737488355328) :
    Code.wp Yba.prog (item 17) (PostX (fun b => (0 < nh ∧ b = hwb) ∨ Bk ≤ b) v0 v1 v15 v28 v33 w) a w := by
  show Code.wp Yba.prog (.seq (fstC (item 17)) (.cond (.tmp 210) (thenC (sndC (item 17))) (elseT 0))) _ a w
  refine wp_then (r61 nh ns _ _ _ _ _ _ _ _ _ w a h hn hs) (fun _ _ _ h => h.1) ?_
  rintro a1 w1 ⟨_, s1, c210, rfl⟩
  by_cases hz : nh + ns = 0
  · refine wp_cond_true (show cell a1 210 = _ by rw [c210, decide_eq_true hz]) ?_
    obtain rfl := hnil hz
    refine Code.wp_mono ?_ (r62 _ _ _ _ _ _ _ _ _ _ w1 a1 s1)
    rintro x a2 w2 ⟨rfl, s2, rfl⟩
    exact ⟨rfl, s2.fr, s2.five, Kept.refl _ _⟩
  refine wp_cond_false (show cell a1 210 = _ by rw [c210, decide_eq_false hz]) ?_
  obtain ⟨gblk, gcap, gb, gc, rfl, hg⟩ := hsome (by omega)
  show Code.wp Yba.prog (.seq (eItem 0) (.seq (eItem 1) (.seq (eItem 2) (.seq (eItem 3) (.seq (eItem 4) (.seq (eItem 5) (.seq (eItem 6) (elseT 7)))))))) _ a1 w1
  refine wp_then (e0 nh ns gblk gcap _ _ _ _ _ _ _ _ w1 a1 s1 hn hs) (fun _ _ _ h => h.1) ?_
  rintro a2 w2 ⟨_, s2, rfl⟩
  refine wp_then (e1 nh ns gblk gcap _ _ _ _ _ _ _ _ w2 a2 s2 hn) (fun _ _ _ h => h.1) ?_
  rintro a3 w3 ⟨_, s3, r3, k3⟩
  have g3 := hg.kept k3 (fun _ _ _ h => h)
  refine wp_then (e2 nh ns gblk gcap _ Bk Tk (gh ++ sw) gb gc _ _ _ _ _ _ _ w3 a3 s3 hn hs (by simp; omega) g3 r3 hT) (fun _ _ _ h => h.1) ?_
  rintro a4 w4 ⟨_, s4, r4, k4⟩
  have g4 := g3.kept k4 (fun b h1 h2 e => by omega)
  have t4 : StrRow w4 w2.heap.size gh := by
    have := StrRow.of_row r4
    have e : (List.range nh).map (fun i => (gh ++ sw).getD i ByteArray.empty) = gh := by
      apply List.ext_getElem
      · simp [lgh]
      · intro i h1 h2
        simp [List.getElem?_append, h2]
    rw [e] at this
    exact this
  refine wp_then (e3 nh _ gh _ _ _ _ _ _ _ _ _ _ w4 a4 s4 hn lgh t4) (fun _ _ _ h => h.1) ?_
  rintro a5 w5 ⟨_, s5, t5, k5⟩
  have g5 := g4.kept k5 (fun b h1 h2 e => by omega)
  have hw5 : 0 < nh → hwo = some ⟨hwb, 0, none⟩ ∧ StrRow w5 hwb hw := fun hp => by
    obtain ⟨q1, q2, q3⟩ := h27 hp
    have q4 := q2.lt
    exact ⟨q1, ((q2.kept k3 (fun h => h)).kept k4 (fun e => by omega)).kept k5 (fun e => by omega)⟩
  refine wp_then (e4 nh hwb hcap hwo hw _ _ _ _ _ _ _ _ _ _ w5 a5 s5 hn lhw hw5) (fun _ _ _ h => h.1) ?_
  rintro a6 w6 ⟨_, s6, t6, k6⟩
  have g6 := g5.kept k6 (fun b h1 h2 e => by have := (h27 e.1).2.2; have := e.2; omega)
  have t5' : StrRow w6 w2.heap.size (sorted gh) := t5.kept k6 (fun e => by have := (h27 e.1).2.1.lt; have := e.2; omega)
  rw [sorted_perm hperm] at t5'
  refine wp_then (e5 nh _ hwb hcap hwo (sorted hw) _ _ _ _ _ _ _ _ _ w6 a6 s6 hn (by rw [sorted_len]; exact lhw) (fun hp => ⟨(h27 hp).1, t6 hp⟩) t5') (fun _ _ _ h => h.1) ?_
  rintro a7 w7 ⟨_, s7, k7⟩
  have g7 := g6.kept k7 (fun _ _ _ h => h)
  have sw7 : 0 < ns → swo = some ⟨swb, 0, none⟩ ∧ StrRow w7 swb sw := fun hp => by
    obtain ⟨q1, q2, q3⟩ := h16 hp
    have q4 := q2.lt
    exact ⟨q1, ((((q2.kept k3 (fun h => h)).kept k4 (fun e => by omega)).kept k5 (fun e => by omega)).kept k6 (fun e => hne e.1 hp e.2)).kept k7 (fun h => h)⟩
  refine wp_then (e6 nh ns gblk gcap swb scap Bk Tk swo (gh ++ sw) sw gb gc _ _ _ _ _ _ _ w7 a7 s7 hn hs lsw (fun j s hj => by rw [List.getElem?_append_right (by omega), lgh, Nat.add_sub_cancel_left]; exact hj) g7 sw7) (fun _ _ _ h => h.1) ?_
  rintro a8 w8 ⟨_, s8, k8⟩
  have g8 := g7.kept k8 (fun _ _ _ h => h)
  refine Code.wp_mono ?_ (e7 nh ns gblk gcap Bk Tk (gh ++ sw) gb gc _ _ _ _ _ _ _ _ w8 a8 s8 hn hs (by simp; omega) g8.weak (fun j s hj => hsz s (List.mem_of_getElem? hj)))
  rintro x a9 w9 ⟨rfl, s9, k9⟩
  have hTT : Bk ≤ w2.heap.size := Nat.le_trans hB hT
  have kk : Kept (fun b => (0 < nh ∧ b = hwb) ∨ Bk ≤ b) w2 w9 := by
    refine (((((((k3.weaken (fun _ _ h => h.elim)).then' k4 ?_).then' k5 ?_).then' k6 ?_).then' k7 ?_).then' k8 ?_).then' k9 ?_)
    · exact fun i _ e => .inr (e ▸ hTT)
    · exact fun i _ e => .inr (e ▸ hTT)
    · exact fun i _ e => .inl e
    · exact fun i _ e => e.elim
    · exact fun i _ e => e.elim
    · exact fun i _ e => .inr e
  exact ⟨rfl, s9.fr, s9.five, kk⟩
end Go.Proofs.Ybulkexnvq
