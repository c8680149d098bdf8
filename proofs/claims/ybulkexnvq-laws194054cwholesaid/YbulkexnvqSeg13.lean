/-
  THE LAW's ITEM 13: the keys held alone that are wanted; how many keys there are.
-/
import Derived.Test.YbulkexnvqSegF
import Derived.Test.YbulkexnvqPlain
namespace Go.Proofs.Ybulkexnvq
open Go Go.RowKit Go.Maps

noncomputable def wantP (I : Inp) : Nat → Bool := fun i => I.M i == I.mode

def Post13 (I : Inp) (v0 v1 v11 v14 v15 v16 : Value) (w : World) (x : Exit) (a' : Act) (w' : World) : Prop :=
  x = .normal ∧ Fr a' ∧ (cell a' 0 = v0 ∧ cell a' 1 = v1 ∧ cell a' 10 = .int .u8 I.mode ∧ cell a' 11 = v11 ∧ cell a' 14 = v14 ∧ cell a' 15 = v15 ∧ cell a' 16 = v16) ∧
  w'.ownsRow w.heap.size 9 1 (cell a' 27) (pick I.K I.n (wantP I) I.n).length ((pick I.K I.n (wantP I) I.n).map Value.string) ∧ cell a' 28 = .int .i64 ((pick I.K I.n (fun _ => true) I.n).length) ∧ Kept (fun _ => False) w w'

theorem ownsRow_kept {w w' : World} {base : Nat} {e : TypeId} {size : Nat} {v : Value} {n : Nat} {xs : List Value} {X : Nat → Prop} (h : w.ownsRow base e size v n xs) (k : Kept X w w') (hX : ∀ g, v.ownBlock = some g → ¬ X g) : w'.ownsRow base e size v n xs := by
  refine ⟨h.1, ?_⟩
  rcases h.2 with h2 | ⟨g, cap, cur, rfl, hb, hc, r⟩
  · exact .inl h2
  · exact .inr ⟨g, cap, cur, rfl, hb, (k.block g (Array.getElem?_eq_some_iff.1 hc).1 (hX g rfl)).trans hc, r⟩

theorem ownsRow_new {w : World} {base : Nat} {e : TypeId} {size : Nat} {v : Value} {n : Nat} {xs : List Value} (h : w.ownsRow base e size v n xs) {g : Nat} (hg : v.ownBlock = some g) : base ≤ g ∧ g < w.heap.size := by
  rcases h.2 with ⟨rfl, _⟩ | ⟨g', cap, cur, rfl, hb, hc, _⟩
  · cases hg
  · simp [Value.ownBlock] at hg
    subst hg
    exact ⟨hb, (Array.getElem?_eq_some_iff.1 hc).1⟩

set_option maxRecDepth 100000 in
set_option maxHeartbeats 3200000 in
theorem seg13 (I : Inp) (v1 v11 v14 v15 v16 : Value) (w0 w : World) (a : Act) (fr : Fr a) (c0 : cell a 0 = .slice I.ha I.n I.hc) (c1 : cell a 1 = v1) (c10 : cell a 10 = .int .u8 I.mode) (c11 : cell a 11 = v11) (c14 : cell a 14 = v14) (c15 : cell a 15 = v15) (c16 : cell a 16 = v16)
    (c27 : cell a 27 = .slice none 0 0) (c28 : cell a 28 = .int .i64 0) (hin : InAt I w0) (hbl : Below w0.heap.size w0 w) (hn : I.n ≤ 4096) :
    Code.wp Yba.prog (item 13) (Post13 I (.slice I.ha I.n I.hc) v1 v11 v14 v15 v16 w) a w := by
  rw [fr.open']
  unfold listF
  rw [c0, c1, c10, c11, c14, c15, c16, c27, c28]
  clear c0 c1 c10 c11 c14 c15 c16 c27 c28 fr
  generalize cell a = f
  clear a
  conv => arg 2; whnf
  have HIN := mkHid hin
  have HBL := mkHid hbl
  clear hin hbl
  generalize hha : I.ha = ha
  have HHA := mkHid hha
  clear hha
  go_wp2
  go_loopg [160, 27, 28] I.n (fun g ix hv dv wr => ∃ k : Nat, k + g = I.n ∧ ix = .int .i64 k ∧ wr.ownsRow w.heap.size 9 1 hv (pick I.K I.n (wantP I) k).length ((pick I.K I.n (wantP I) k).map Value.string) ∧ dv = .int .i64 ((pick I.K I.n (fun _ => true) k).length) ∧ Kept (fun _ => False) w wr)
  case atStart => exact ⟨0, by omega, rfl, World.ownsRow_nil _ _ _ _, rfl, Kept.refl _ _⟩
  case round =>
    obtain ⟨k, hk, rfl, hown, rfl, hkp⟩ := hrel
    have HK := mkHid hkp
    have HO := mkHid hown
    clear hkp hown
    by_cases hlt : k < I.n
    · have HI := mkHid (HIN.out.below (Below.kept' HBL.out HK.out (fun _ _ h => h) (Nat.le_refl _)))
      obtain ⟨b, off, hha, q0, q1⟩ := HI.out.held k hlt
      obtain rfl := HHA.out.symm.trans hha
      have l1 := World.block_lt_of_cell? _ _ q0
      simp only at l1
      clear hha
      have HA := mkHid (HK.out.alloc (.cells #[.string (I.K k), .int .u8 (I.M k)] 30))
      have HR := mkHid (RowF.alloc_new wr 30 #[.string (I.K k), .int .u8 (I.M k)] 2 (fun i => if i = 0 then .string (I.K k) else .int .u8 (I.M k)) (by simp [List.range, List.range.loop]))
      have HO2 := mkHid (HO.out.alloc (.cells #[.string (I.K k), .int .u8 (I.M k)] 30))
      go_wp2
      clear q0 q1 HO HI
      obtain ⟨G, hG⟩ : ∃ G, G = gk := ⟨_, rfl⟩
      subst hG
      generalize hP : wr.heap.size = P at *
      have HP := mkHid hP
      clear hP
      have hp1 := pick_le (K := I.K) I.n (wantP I) k
      have hp2 := pick_le (K := I.K) I.n (fun _ => true) k
      cases hl : lastB I.K I.n k with
      | true =>
        have HLL := mkHid hl
        have HL := mkHid (lastB_true.1 hl)
        clear hl
        go_loopg [32, 31] (I.n - (k + 1)) (fun g ix lv wy => ∃ j : Nat, k < j ∧ j + g = I.n ∧ ix = .int .i64 j ∧ lv = .bool true ∧ Kept (fun _ => False) w wy ∧ RowF wy P 30 2 (fun i => if i = 0 then .string (I.K k) else .int .u8 (I.M k)) ∧
          wy.ownsRow w.heap.size 9 1 u27 (pick I.K I.n (wantP I) k).length ((pick I.K I.n (wantP I) k).map Value.string))
        case atStart => exact ⟨k + 1, by omega, by omega, by go_num, rfl, HA.out, HR.out, HO2.out⟩
        case round =>
          obtain ⟨j, hj0, hj1, rfl, rfl, hk2, hr2, ho2⟩ := hrel
          have HK2 := mkHid hk2
          have HR2 := mkHid hr2
          have HO3 := mkHid ho2
          have z0 : wr.cell? ⟨P, 0, none⟩ = some (.string (I.K k)) := hr2.cell (i := 0) (by decide)
          have z1 : wr.cell? ⟨P, 1, none⟩ = some (.int .u8 (I.M k)) := hr2.cell (i := 1) (by decide)
          have hPl := hr2.lt
          clear hk2 hr2 ho2 HA HR HO2
          by_cases hj : j < I.n
          · obtain ⟨b', off', hha', q0, q1⟩ := (HIN.out.below (Below.kept' HBL.out HK2.out (fun _ _ h => h) (Nat.le_refl _))).held j hj
            cases HHA.out.symm.trans hha'
            have hne := beq_ne (HL.out j hj0 hj)
            clear hha' q1 z1
            go_wp2
            go_quiet (fail)
            go_wp2
            go_roundg (gk - 1)
            case measure => omega
            case rel => exact ⟨j + 1, by omega, by omega, by go_num, rfl, HK2.out.drewN _, HR2.out.drewN _, HO3.out⟩
          · have e2 : (pick I.K I.n (fun _ => true) (k + 1)).length = (pick I.K I.n (fun _ => true) k).length + 1 := by
              rw [pick_succ, HLL.out]
              simp
            have HE2 := mkHid e2
            clear e2
            by_cases hmo : I.M k = I.mode
            · have e1 : pick I.K I.n (wantP I) (k + 1) = pick I.K I.n (wantP I) k ++ [I.K k] := by
                rw [pick_succ, HLL.out]
                simp [wantP, hmo]
              have HE1 := mkHid e1
              have HMO := mkHid hmo
              clear e1
              rw [hmo] at z1
              clear hmo
              obtain ⟨i0, hi0, hz0, hz1, hz2⟩ := info_parts' Yba.info9
              have HO4 := mkHid (HO3.out.alloc (.cells #[.string (I.K k)] 9))
              go_wp2_with (first
                | (at_builtin; refine wpList_append_own _ rfl (.tmp 188) (.tmp 191) 24 rfl w.heap.size 9 i0 (.string ⟨#[]⟩) 1 16 Yba.underlying24 hi0 hz0 hz1 hz2 rfl (by decide) u27 _ _ rfl HO4.out ⟨wr.heap.size, 0, none⟩ 1 1 [.string (I.K k)] rfl rfl (news_one _ _ _ _ rfl) (by intro u hu; simp at hu; subst hu; rfl) (by unfold maxLen; omega) (by omega) (by have := HK2.out.size; simp; omega) ?_; intro v' w5 ho5 hg5 hn5; go_frame)
                | go_in)
              have HK5 := (HK2.out.alloc (.cells #[.string (I.K k)] 9)).grown hg5 (fun g hg => .inr (ownsRow_new HO3.out hg).1)
              go_roundg (G - 1)
              case measure => omega
              case rel => exact ⟨k + 1, by omega, by go_num, by rw [HE1.out]; simpa using ho5, by rw [HE2.out]; go_num, HK5⟩
            · have e1 : pick I.K I.n (wantP I) (k + 1) = pick I.K I.n (wantP I) k := by
                rw [pick_succ, HLL.out]
                simp [wantP, hmo]
              have HE1 := mkHid e1
              clear e1
              have hmo1 : ¬ ((I.M k : Nat) : Int) = (I.mode : Int) := by omega
              have hmo2 := decide_eq_false hmo1
              go_wp2
              go_roundg (G - 1)
              case measure => omega
              case rel => exact ⟨k + 1, by omega, by go_num, by rw [HE1.out]; exact HO3.out, by rw [HE2.out]; go_num, HK2.out⟩
      | false =>
        obtain ⟨j0, hj00, hj01, hj02, hj03⟩ := lastB_false hl
        have HE1 : Hid (pick I.K I.n (wantP I) (k + 1) = pick I.K I.n (wantP I) k) := mkHid (by rw [pick_succ, hl]; simp)
        have HE2 : Hid (pick I.K I.n (fun _ => true) (k + 1) = pick I.K I.n (fun _ => true) k) := mkHid (by rw [pick_succ, hl]; simp)
        have HL := mkHid hj03
        have HE := mkHid hj02
        clear hl hj03 hj02
        go_loopg [32, 31] (j0 - (k + 1)) (fun g ix lv wy => ∃ j : Nat, k < j ∧ j + g = j0 ∧ ix = .int .i64 j ∧ lv = .bool true ∧ Kept (fun _ => False) w wy ∧ RowF wy P 30 2 (fun i => if i = 0 then .string (I.K k) else .int .u8 (I.M k)) ∧
          wy.ownsRow w.heap.size 9 1 u27 (pick I.K I.n (wantP I) k).length ((pick I.K I.n (wantP I) k).map Value.string))
        case atStart => exact ⟨k + 1, by omega, by omega, by go_num, rfl, HA.out, HR.out, HO2.out⟩
        case round =>
          obtain ⟨j, hj0, hj1, rfl, rfl, hk2, hr2, ho2⟩ := hrel
          have HK2 := mkHid hk2
          have HR2 := mkHid hr2
          have HO3 := mkHid ho2
          have z0 : wr.cell? ⟨P, 0, none⟩ = some (.string (I.K k)) := hr2.cell (i := 0) (by decide)
          clear hk2 hr2 ho2 HA HR HO2
          have hj : j < I.n := by omega
          obtain ⟨b', off', hha', q0, q1⟩ := (HIN.out.below (Below.kept' HBL.out HK2.out (fun _ _ h => h) (Nat.le_refl _))).held j hj
          cases HHA.out.symm.trans hha'
          clear hha' q1
          by_cases hjj : j < j0
          · have hne := beq_ne (HL.out j hj0 hjj)
            go_wp2
            go_quiet (fail)
            go_wp2
            go_roundg (gk - 1)
            case measure => omega
            case rel => exact ⟨j + 1, by omega, by omega, by go_num, rfl, HK2.out.drewN _, HR2.out.drewN _, HO3.out⟩
          · obtain rfl : j = j0 := by omega
            have hne := beq_eq HE.out
            go_wp2
            go_quiet (fail)
            go_wp2
            go_roundg (G - 1)
            case measure => omega
            case rel => exact ⟨k + 1, by omega, by go_num, by rw [HE1.out]; exact HO3.out, by rw [HE2.out], HK2.out.drewN _⟩
    · obtain rfl : k = I.n := by omega
      go_wp2
      exact ⟨rfl, ⟨rfl, rfl⟩, ⟨rfl, rfl, rfl, rfl, rfl, rfl, rfl⟩, HO.out, rfl, HK.out⟩
end Go.Proofs.Ybulkexnvq
