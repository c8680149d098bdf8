/-
  THE LAW's ITEMS 2, 3, 6, 15 AND ITS END.
-/
import Derived.Test.YbulkexnvqItems
import Derived.Test.YbulkexnvqPlain
namespace Go.Proofs.Ybulkexnvq
open Go Go.RowKit Go.Maps

def Post2 (v0 v1 v2 v10 v11 v14 v15 v16 v27 v28 v33 v34 v35 v36 : Value) (w : World) (x : Exit) (a' : Act) (w' : World) : Prop := x = .normal ∧ Sm a' v0 v1 v2 v10 v11 v14 v15 v16 v27 v28 v33 v34 v35 v36 ∧ cell a' 7 = .int .i64 0 ∧ w' = w

set_option maxRecDepth 100000 in
set_option maxHeartbeats 3200000 in
theorem i2 (v0 v1 v2 v10 v11 v14 v15 v16 v27 v28 v33 v34 v35 v36 : Value) (w : World) (a : Act) (h : Sm a v0 v1 v2 v10 v11 v14 v15 v16 v27 v28 v33 v34 v35 v36) : Code.wp Yba.prog (item 2) (Post2 v0 v1 v2 v10 v11 v14 v15 v16 v27 v28 v33 v34 v35 v36 w) a w := by
  obtain ⟨fr, c0, c1, c2, c10, c11, c14, c15, c16, c27, c28, c33, c34, c35, c36⟩ := h
  rw [fr.open']
  unfold listF
  rw [c0, c1, c2, c10, c11, c14, c15, c16, c27, c28, c33, c34, c35, c36]
  clear c0 c1 c2 c10 c11 c14 c15 c16 c27 c28 c33 c34 c35 c36 fr
  generalize cell a = f
  clear a
  conv => arg 2; whnf
  go_wp2
  exact ⟨rfl, ⟨⟨rfl, rfl⟩, rfl, rfl, rfl, rfl, rfl, rfl, rfl, rfl, rfl, rfl, rfl, rfl, rfl, rfl⟩, rfl, rfl⟩

/-- Either all keys are counted, or the law has returned true. -/
def Post3 (m : Nat) (kn : Nat → Nat) (v0 v1 v2 v10 v11 v14 v15 v16 v27 v28 v33 v34 v35 v36 : Value) (w : World) (x : Exit) (a' : Act) (w' : World) : Prop :=
  Kept (fun _ => False) w w' ∧ ((x = .normal ∧ Sm a' v0 v1 v2 v10 v11 v14 v15 v16 v27 v28 v33 v34 v35 v36 ∧ tot kn m ≤ 65536) ∨ (x = .ret ∧ Fr a' ∧ cell a' 6 = .bool true))

set_option maxRecDepth 100000 in
set_option maxHeartbeats 3200000 in
theorem i3 (I : Inp) (v0 v2 v10 v11 v14 v15 v16 v27 v28 v33 v34 v35 v36 : Value) (w0 w : World) (a : Act) (h : Sm a v0 (.slice I.sa I.m I.sc) v2 v10 v11 v14 v15 v16 v27 v28 v33 v34 v35 v36) (c7 : cell a 7 = .int .i64 0) (hin : InAt I w0) (hbl : Below w0.heap.size w0 w) (hm4 : I.m ≤ 4096) (hkn : ∀ k, k < I.m → I.kn k ≤ 140737488355328) :
    Code.wp Yba.prog (item 3) (Post3 I.m I.kn v0 (.slice I.sa I.m I.sc) v2 v10 v11 v14 v15 v16 v27 v28 v33 v34 v35 v36 w) a w := by
  obtain ⟨fr, c0, c1, c2, c10, c11, c14, c15, c16, c27, c28, c33, c34, c35, c36⟩ := h
  rw [fr.open']
  unfold listF
  rw [c7, c0, c1, c2, c10, c11, c14, c15, c16, c27, c28, c33, c34, c35, c36]
  clear c7 c0 c1 c2 c10 c11 c14 c15 c16 c27 c28 c33 c34 c35 c36 fr
  generalize cell a = f
  clear a
  conv => arg 2; whnf
  have HIN := mkHid hin
  have HBL := mkHid hbl
  have HKN := mkHid hkn
  clear hin hbl hkn
  generalize hsa : I.sa = sa
  have HSA := mkHid hsa
  clear hsa
  go_wp2
  go_loopg [67, 7] I.m (fun g ix tv wr => ∃ k : Nat, k + g = I.m ∧ ix = .int .i64 k ∧ tv = .int .i64 (tot I.kn k) ∧ tot I.kn k ≤ 65536 ∧ Kept (fun _ => False) w wr)
  case atStart => exact ⟨0, by omega, rfl, rfl, by simp [tot], Kept.refl _ _⟩
  case round =>
    obtain ⟨k, hk, rfl, rfl, htk, hkp⟩ := hrel
    have HK := mkHid hkp
    clear hkp
    by_cases hlt : k < I.m
    · obtain ⟨b, off, hsa, q0, q1, q2⟩ := (HIN.out.below (Below.kept' HBL.out HK.out (fun _ _ h => h) (Nat.le_refl _))).sets k hlt
      obtain rfl := HSA.out.symm.trans hsa
      have hkk := HKN.out k hlt
      have l1 := World.block_lt_of_cell? _ _ q0
      simp only at l1
      clear hsa
      obtain ⟨t, ht⟩ : ∃ t, t = tot I.kn k := ⟨_, rfl⟩
      have HTT := mkHid ht
      rw [← ht] at htk ⊢
      clear ht
      generalize hkx : I.kn k = n at *
      have HN := mkHid hkx
      clear hkx
      by_cases hbig : t + n ≤ 65536
      · have hb1 : ¬ ((65536 : Int) < (t : Int) + (n : Int)) := by omega
        go_wp2
        go_roundg (gk - 1)
        case measure => omega
        case rel =>
          have e : tot I.kn (k + 1) = t + n := by simp only [tot]; rw [← HTT.out, HN.out]
          exact ⟨k + 1, by omega, by go_num, by rw [e]; go_num, by rw [e]; exact hbig, HK.out.alloc _⟩
      · have hb1 : (65536 : Int) < (t : Int) + (n : Int) := by omega
        go_wp2
        exact ⟨HK.out.alloc _, .inr ⟨rfl, ⟨rfl, rfl⟩, rfl⟩⟩
    · obtain rfl : k = I.m := by omega
      go_wp2
      exact ⟨HK.out, .inl ⟨rfl, ⟨⟨rfl, rfl⟩, rfl, rfl, rfl, rfl, rfl, rfl, rfl, rfl, rfl, rfl, rfl, rfl, rfl, rfl⟩, htk⟩⟩

set_option maxRecDepth 100000 in
set_option maxHeartbeats 3200000 in
theorem i6 (I : Inp) (mb : Nat) (v1 v2 v10 v14 v15 v16 v27 v28 v33 v34 v35 v36 : Value) (w0 w : World) (a : Act) (h : Sm a (.slice I.ha I.n I.hc) v1 v2 v10 (.map (some mb)) v14 v15 v16 v27 v28 v33 v34 v35 v36) (hin : InAt I w0) (hbl : Below w0.heap.size w0 w) (hn : I.n ≤ 4096) (hK : ∀ i, i < I.n → (I.K i).size ≤ maxLen) (hM : ∀ i, i < I.n → I.M i ≤ 255)
    (hmb : w0.heap.size ≤ mb) (hown : w.ownsMap Yba.prog 9 (plainElem Yba.prog 27) mb 0 (Dn I.K I.M 0)) :
    Code.wp Yba.prog (item 6) (PostM (.slice I.ha I.n I.hc) v1 v2 v10 (.map (some mb)) v14 v15 v16 v27 v28 v33 v34 v35 v36 (fun w' => w'.ownsMap Yba.prog 9 (plainElem Yba.prog 27) mb I.n (Dn I.K I.M I.n) ∧ Kept (· = mb) w w')) a w := by
  obtain ⟨fr, c0, c1, c2, c10, c11, c14, c15, c16, c27, c28, c33, c34, c35, c36⟩ := h
  rw [fr.open']
  unfold listF
  rw [c0, c1, c2, c10, c11, c14, c15, c16, c27, c28, c33, c34, c35, c36]
  clear c0 c1 c2 c10 c11 c14 c15 c16 c27 c28 c33 c34 c35 c36 fr
  generalize cell a = f
  clear a
  conv => arg 2; whnf
  have HIN := mkHid hin
  have HBL := mkHid hbl
  have HKK := mkHid hK
  have HMM := mkHid hM
  have HOWN := mkHid hown
  clear hin hbl hK hM hown
  generalize hha : I.ha = ha
  have HHA := mkHid hha
  clear hha
  go_wp2
  go_loopg [83] I.n (fun g ix wr => ∃ k : Nat, k + g = I.n ∧ ix = .int .i64 k ∧ wr.ownsMap Yba.prog 9 (plainElem Yba.prog 27) mb k (Dn I.K I.M k) ∧ Kept (· = mb) w wr)
  case atStart => exact ⟨0, by omega, rfl, HOWN.out, Kept.refl _ _⟩
  case round =>
    obtain ⟨k, hk, rfl, ho, hkp⟩ := hrel
    have HK := mkHid hkp
    have HO := mkHid ho
    clear hkp ho HOWN
    by_cases hlt : k < I.n
    · obtain ⟨b, off, hha, q0, q1⟩ := (HIN.out.below (Below.kept' HBL.out HK.out (fun b hb e => by omega) (Nat.le_refl _))).held k hlt
      obtain rfl := HHA.out.symm.trans hha
      have l1 := World.block_lt_of_cell? _ _ q0
      have hsz := HKK.out k hlt
      have hmk := HMM.out k hlt
      simp only at l1
      have hkey : keyOf Yba.prog 9 (.string (I.K k)) = some (key (I.K k)) := by simp [keyOf, Yba.underlying9, mapKey, hsz, key]
      have hval : plainElem (H := Unit) Yba.prog 27 (.int .u8 (I.M k)) = some (.lit (.int .u8 (I.M k)), []) := plainElem_int Yba.underlying27 (by have h1 : IntKind.u8.min = 0 := rfl; have h2 : IntKind.u8.max = 255 := rfl; simp only [Lit.wf, h1, h2, Bool.and_eq_true, decide_eq_true_eq]; omega)
      have HO2 := mkHid (HO.out.alloc (.cells #[.string (I.K k), .int .u8 (I.M k)] 30))
      have HKEY := mkHid hkey
      have HVAL := mkHid hval
      clear hha hkey hval hsz
      go_wp2_with (first
        | (at_mapUpdate; refine wpList_mapUpdate_own _ rfl _ _ _ 28 rfl 9 27 (string_keyed Yba.underlying9) Yba.underlying28 _ mb k _ rfl HO2.out (by unfold maxLen; omega) _ _ (key (I.K k)) rfl rfl HKEY.out (.lit (.int .u8 (I.M k))) [] HVAL.out ?_; intro w1 hown1 hg1; have HO3 := mkHid hown1; have HG3 := mkHid hg1; clear hown1 hg1)
        | go_in)
      go_roundg (gk - 1)
      case measure => omega
      case rel => exact ⟨k + 1, by omega, by go_num, HO3.out, (HK.out.alloc _).grown HG3.out (fun b hb => .inl (by simpa using hb.symm))⟩
    · obtain rfl : k = I.n := by omega
      go_wp2
      exact ⟨rfl, ⟨⟨rfl, rfl⟩, rfl, rfl, rfl, rfl, rfl, rfl, rfl, rfl, rfl, rfl, rfl, rfl, rfl, rfl⟩, HO.out, HK.out⟩

def Post15 (d : SetsD) (D : DataW Unit) (mode tb : Nat) (v0 v1 v2 v10 v11 v14 v15 v16 v27 v28 v33 v35 v36 : Value) (w : World) (x : Exit) (a' : Act) (w' : World) : Prop :=
  x = .normal ∧ ∃ v gh gv, Sm a' v0 v1 v2 v10 v11 v14 v15 v16 v27 v28 v33 v v35 v36 ∧ HeldIn D (fun _ => false) mode gh ∧ gh.length ≤ 4096 ∧ Got (· = tb) w w' v (gh ++ (if mode = 2 then upTo d d.m else [])) gv

set_option maxRecDepth 100000 in
set_option maxHeartbeats 3200000 in
theorem i15 (d : SetsD) (D : DataW Unit) (mode ob tb : Nat) (v0 v1 v2 v11 v14 v15 v16 v27 v28 v34 v35 v36 : Value) (w : World) (a : Act) (h : Sm a v0 v1 v2 (.int .u8 mode) v11 v14 v15 v16 v27 v28 (.pointer (some ⟨ob, 0, none⟩)) v34 v35 v36) (hc : Calls Yba.prog 5 #[.pointer (some ⟨ob, 0, none⟩), .int .u8 mode] w (KeysPost d D mode tb w)) :
    Code.wp Yba.prog (item 15) (Post15 d D mode tb v0 v1 v2 (.int .u8 mode) v11 v14 v15 v16 v27 v28 (.pointer (some ⟨ob, 0, none⟩)) v35 v36 w) a w := by
  obtain ⟨fr, c0, c1, c2, c10, c11, c14, c15, c16, c27, c28, c33, c34, c35, c36⟩ := h
  rw [fr.open']
  unfold listF
  rw [c0, c1, c2, c10, c11, c14, c15, c16, c27, c28, c33, c34, c35, c36]
  clear c0 c1 c2 c10 c11 c14 c15 c16 c27 c28 c33 c34 c35 c36 fr
  generalize cell a = f
  clear a
  conv => arg 2; whnf
  have HC := mkHid hc
  clear hc
  go_wp2_with (first | (go_at_call 5; refine HC.out.mono ?_; rintro e w1 ⟨v, gh, gv, rfl, h1, h2, h3⟩; have H1 := mkHid h1; have H2 := mkHid h2; have H3 := mkHid h3; clear h1 h2 h3) | go_in)
  exact ⟨rfl, v, gh, gv, ⟨⟨rfl, rfl⟩, rfl, rfl, rfl, rfl, rfl, rfl, rfl, rfl, rfl, rfl, rfl, rfl, rfl, rfl⟩, H1.out, H2.out, H3.out⟩

set_option maxRecDepth 100000 in
set_option maxHeartbeats 3200000 in
theorem i23 (R : Ending → World → Prop) (w : World) (a : Act) (fr : Fr a) (hR : R (.returned (.bool true)) w) : Code.wp Yba.prog (tailAt 23) (bodyPost Yba.prog Yba.f3 R) a w := by
  rw [fr.open']
  unfold listF
  generalize cell a = f
  conv => arg 2; whnf
  go_wp2
  exact hR

theorem ret_true (R : Ending → World → Prop) (w : World) (a : Act) (fr : Fr a) (h6 : cell a 6 = .bool true) (hR : R (.returned (.bool true)) w) : bodyPost Yba.prog Yba.f3 R .ret a w := by
  refine bodyPost_ret (results_tmp rfl _ _ _) fr.defers ?_
  show R (.returned (cell a 6)) w
  rw [h6]
  exact hR
end Go.Proofs.Ybulkexnvq
