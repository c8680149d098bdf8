/-
  plan.LawS194059BWhole: the walk.
-/
import Derived.Test.YbulkexnyiLinks
import Derived.Test.YbulkexnyiAfter
import Derived.Test.YbulkexnyiMade
import Derived.Deep.DeepCutAuto
namespace Go.Proofs.Ybulkexnyi
open Go Go.RowKit

set_option maxRecDepth 100000 in
set_option maxHeartbeats 3200000 in
theorem law_main (n i : Nat) (ao : Option Addr) (ne cap : Nat) (eA eB : Nat → Nat) (nn W x : Nat) (w : World) (hn : n ≤ 65535) (hi : i ≤ 65535) (hne : ne ≤ 65536)
    (hnn : (1 : Int) + (n : Int) % 300 = (nn : Int)) (hWW : ((nn : Int) + 63) / 64 = (W : Int)) (hxx : (i : Int) % (nn : Int) = (x : Int)) (hn0 : 0 < nn) (hn3 : nn ≤ 300)
    (hc : ∀ k, k < ne → ∃ b off, ao = some ⟨b, off, none⟩ ∧ w.cell? ⟨b, off + k * 2, none⟩ = some (.int .u16 (eA k)) ∧ w.cell? ⟨b, off + k * 2 + 1, none⟩ = some (.int .u16 (eB k)) ∧ eA k ≤ 65535 ∧ eB k ≤ 65535) :
    Calls Yba.prog 3 #[.int .u16 n, .slice ao ne cap, .int .u16 i] w fun e w' => e = .returned (.bool true) ∧ Below w.heap.size w w' := by
  have m1 := make27 nn (by omega)
  have HC := mkHid hc
  have HW := mkHid hWW
  have HX := mkHid hxx
  clear hc hWW hxx
  go_enter Yba.func3, Yba.ntmps3
  go_wp2
  go_loopg [41] ne (fun g ix wr => ∃ (k : Nat) (lst : Bool → Nat → List Nat) (fv : Bool → Nat → Value), k + g = ne ∧ ix = .int .i64 k ∧ L1 w nn k lst fv wr)
  case atStart => exact ⟨0, fun _ _ => [], fun _ _ => .slice none 0 0, by omega, rfl, ⟨G1.start w nn, fun x y h => by simp at h, fun _ _ => by simp, ((Kept.refl _ _).alloc _).alloc _⟩⟩
  case round =>
    obtain ⟨k, lst, fv, hk, rfl, hl⟩ := hrel
    have HL := mkHid hl
    by_cases hlt : k < ne
    · obtain ⟨b, off, rfl, c1, c2, b1, b2⟩ := HC.out k hlt
      have d1 := hl.kept.cell c1 (fun h => h)
      have d2 := hl.kept.cell c2 (fun h => h)
      have hb := World.block_lt_of_cell? _ _ d1
      simp only at hb
      clear hl m1 c1 c2
      obtain ⟨a, ha⟩ : ∃ a : Nat, ((eA k : Nat) : Int) % (nn : Int) = (a : Int) := ⟨eA k % nn, by simp⟩
      obtain ⟨b', hb'⟩ : ∃ a : Nat, ((eB k : Nat) : Int) % (nn : Int) = (a : Int) := ⟨eB k % nn, by simp⟩
      have la : a < nn := by have := Int.emod_lt_of_pos (eA k : Int) (show (0 : Int) < nn by omega); omega
      have lb' : b' < nn := by have := Int.emod_lt_of_pos (eB k : Int) (show (0 : Int) < nn by omega); omega
      have q1 : wr.cell? ⟨w.heap.size, a, none⟩ = some (fv false a) := by simpa using (HL.out.g.row false).cell la
      have q2 : wr.cell? ⟨w.heap.size + 1, b', none⟩ = some (fv true b') := by simpa using (HL.out.g.row true).cell lb'
      have l1 : w.heap.size < wr.heap.size := by simpa using (HL.out.g.row false).lt
      have l2 : w.heap.size + 1 < wr.heap.size := by simpa using (HL.out.g.row true).lt
      obtain ⟨i0, hi0, hz0, hz1, hz2⟩ := info_parts' Yba.info3
      have HLN := mkHid HL.out.len
      rcases Nat.lt_trichotomy a b' with h | h | h
      · have HG0 := mkHid (HL.out.g.two (.cells #[.int .u16 (eA k), .int .u16 (eB k)] 26) (.cells #[.int .i64 b'] 3))
        go_wp2_with (first
          | (at_builtin; refine wpList_append_lies _ rfl (.tmp 68) (.tmp 70) 27 rfl (w.heap.size + 2) 3 i0 (.int .i64 0) 1 8 Yba.underlying27 hi0 hz0 hz1 hz2 rfl (by decide) (fv false a) (lst false a).length (ints (lst false a)) rfl (HG0.out.own false a la) ⟨wr.heap.size + 1, 0, none⟩ 1 1 [.int .i64 b'] rfl rfl (news_one _ _ _ (by simp)) (by intro u hu; simp at hu; subst hu; rfl) (by decide) (by have := HLN.out false a; unfold maxLen; omega) (by have := HLN.out false a; omega) HG0.out.size (wr.heap.size + 1 + 1) (by simp) ?_; intro g1 cap1 w1 ho1 hg1 hat1 hlt1; have HX1 := mkHid (HG0.out.app false la ho1 hg1 (by simpa using hat1)); have HK1 := mkHid hg1; have z1 : w1.cell? ⟨w.heap.size, a, none⟩ = some (fv false a) := (by simpa using (HG0.out.mid la hg1 false).cell la); have z2 : w1.frozen? ⟨w.heap.size, a, none⟩ = false := (by simpa using (HG0.out.mid la hg1 false).frozen a); have z3 : w1.cell? ⟨w.heap.size + 1, b', none⟩ = some (fv true b') := (by simpa using (HG0.out.mid la hg1 true).cell lb'); have z4 : w.heap.size + 1 < w1.heap.size := (by simpa using (HG0.out.mid la hg1 true).lt); clear ho1 hg1 hat1 hlt1)
          | (at_builtin; refine wpList_append_lies _ rfl (.tmp 78) (.tmp 80) 27 rfl (w.heap.size + 2) 3 i0 (.int .i64 0) 1 8 Yba.underlying27 hi0 hz0 hz1 hz2 rfl (by decide) (fv true b') (lst true b').length (ints (lst true b')) rfl (by have := (HX1.out.one (.cells #[.int .i64 a] 3)).own true b' lb'; simpa [upd] using this) ⟨w1.heap.size, 0, none⟩ 1 1 [.int .i64 a] rfl rfl (news_one _ _ _ (by simp [World.setCell])) (by intro u hu; simp at hu; subst hu; rfl) (by decide) (by have := HLN.out true b'; unfold maxLen; omega) (by have := HLN.out true b'; omega) (HX1.out.one _).size (w1.heap.size + 1) (by simp [World.setCell]) ?_; intro g2 cap2 w2 ho2 hg2 hat2 hlt2; have HX2 := mkHid ((HX1.out.one (.cells #[.int .i64 a] 3)).app true (b := a) (g := g2) (cap := cap2) (w1 := w2) lb' (by simpa [upd] using ho2) (by simpa [upd] using hg2) (by simpa [upd, World.setCell] using hat2)); have HK2 := mkHid hg2; have z5 : w2.cell? ⟨w.heap.size + 1, b', none⟩ = some (fv true b') := (by simpa [upd] using ((HX1.out.one (.cells #[.int .i64 a] 3)).mid (t := true) lb' (by simpa [upd] using hg2) true).cell lb'); have z6 : w2.frozen? ⟨w.heap.size + 1, b', none⟩ = false := (by simpa using ((HX1.out.one (.cells #[.int .i64 a] 3)).mid (t := true) lb' (by simpa [upd] using hg2) true).frozen b'); clear ho2 hg2 hat2 hlt2))
        have HST := HL.out.step la h lb' HK1.out HK2.out (by simpa [upd] using HX2.out)
        obtain ⟨lst', fv', HST⟩ := HST
        go_roundg (gk - 1)
        case measure => omega
        case rel => exact ⟨k + 1, lst', fv', by omega, by go_num, HST⟩
      · subst h
        go_wp2
        go_roundg (gk - 1)
        case measure => omega
        case rel => exact ⟨k + 1, lst, fv, by omega, by go_num, HL.out.skip _⟩
      · have q3 : wr.cell? ⟨w.heap.size, b', none⟩ = some (fv false b') := by simpa using (HL.out.g.row false).cell lb'
        have q4 : wr.cell? ⟨w.heap.size + 1, a, none⟩ = some (fv true a) := by simpa using (HL.out.g.row true).cell la
        have HG0 := mkHid (HL.out.g.two (.cells #[.int .u16 (eA k), .int .u16 (eB k)] 26) (.cells #[.int .i64 a] 3))
        go_wp2_with (first
          | (at_builtin; refine wpList_append_lies _ rfl (.tmp 68) (.tmp 70) 27 rfl (w.heap.size + 2) 3 i0 (.int .i64 0) 1 8 Yba.underlying27 hi0 hz0 hz1 hz2 rfl (by decide) (fv false b') (lst false b').length (ints (lst false b')) rfl (HG0.out.own false b' lb') ⟨wr.heap.size + 1, 0, none⟩ 1 1 [.int .i64 a] rfl rfl (news_one _ _ _ (by simp)) (by intro u hu; simp at hu; subst hu; rfl) (by decide) (by have := HLN.out false b'; unfold maxLen; omega) (by have := HLN.out false b'; omega) HG0.out.size (wr.heap.size + 1 + 1) (by simp) ?_; intro g1 cap1 w1 ho1 hg1 hat1 hlt1; have HX1 := mkHid (HG0.out.app false lb' ho1 hg1 (by simpa using hat1)); have HK1 := mkHid hg1; have z1 : w1.cell? ⟨w.heap.size, b', none⟩ = some (fv false b') := (by simpa using (HG0.out.mid lb' hg1 false).cell lb'); have z2 : w1.frozen? ⟨w.heap.size, b', none⟩ = false := (by simpa using (HG0.out.mid lb' hg1 false).frozen b'); have z3 : w1.cell? ⟨w.heap.size + 1, a, none⟩ = some (fv true a) := (by simpa using (HG0.out.mid lb' hg1 true).cell la); have z4 : w.heap.size + 1 < w1.heap.size := (by simpa using (HG0.out.mid lb' hg1 true).lt); clear ho1 hg1 hat1 hlt1)
          | (at_builtin; refine wpList_append_lies _ rfl (.tmp 78) (.tmp 80) 27 rfl (w.heap.size + 2) 3 i0 (.int .i64 0) 1 8 Yba.underlying27 hi0 hz0 hz1 hz2 rfl (by decide) (fv true a) (lst true a).length (ints (lst true a)) rfl (by have := (HX1.out.one (.cells #[.int .i64 b'] 3)).own true a la; simpa [upd] using this) ⟨w1.heap.size, 0, none⟩ 1 1 [.int .i64 b'] rfl rfl (news_one _ _ _ (by simp [World.setCell])) (by intro u hu; simp at hu; subst hu; rfl) (by decide) (by have := HLN.out true a; unfold maxLen; omega) (by have := HLN.out true a; omega) (HX1.out.one _).size (w1.heap.size + 1) (by simp [World.setCell]) ?_; intro g2 cap2 w2 ho2 hg2 hat2 hlt2; have HX2 := mkHid ((HX1.out.one (.cells #[.int .i64 b'] 3)).app true (b := b') (g := g2) (cap := cap2) (w1 := w2) la (by simpa [upd] using ho2) (by simpa [upd] using hg2) (by simpa [upd, World.setCell] using hat2)); have HK2 := mkHid hg2; have z5 : w2.cell? ⟨w.heap.size + 1, a, none⟩ = some (fv true a) := (by simpa [upd] using ((HX1.out.one (.cells #[.int .i64 b'] 3)).mid (t := true) la (by simpa [upd] using hg2) true).cell la); have z6 : w2.frozen? ⟨w.heap.size + 1, a, none⟩ = false := (by simpa using ((HX1.out.one (.cells #[.int .i64 b'] 3)).mid (t := true) la (by simpa [upd] using hg2) true).frozen a); clear ho2 hg2 hat2 hlt2))
        have HST := HL.out.step lb' h la HK1.out HK2.out (by simpa [upd] using HX2.out)
        obtain ⟨lst', fv', HST⟩ := HST
        go_roundg (gk - 1)
        case measure => omega
        case rel => exact ⟨k + 1, lst', fv', by omega, by go_num, HST⟩
    · obtain rfl : k = ne := by omega
      have hl1 : w.heap.size < wr.heap.size := by simpa using (hl.g.row false).lt
      have m2 := make29 nn (by omega)
      have HB := mkHid (show ∀ t a g, a < nn → (fv t a).ownBlock = some g → g < wr.heap.size from fun t a g ha hg => ((hl.g.own t a ha).lt g hg).2)
      have HR := mkHid (RowF.alloc_new wr 29 (madeCells #[.pointer none] nn) nn (fun _ => .pointer none) (by rw [toList_madeCells_one, replicate_range]))
      have HK := mkHid (hl.kept.alloc (.cells (madeCells #[.pointer none] nn) 29))
      have HG := mkHid (hl.g.one (.cells (madeCells #[.pointer none] nn) 29))
      have HUP := mkHid hl.up
      have HLN := mkHid hl.len
      have hA := hl.g.size
      clear hl m1 HL
      go_wp2
      clear m2
      generalize wr.heap.size = X at *
      go_loopg [16] nn (fun g ix w2 => ∃ (k : Nat) (f : Nat → Value), k + g = nn ∧ ix = .int .i64 k ∧ RowF w2 X 29 nn f ∧ (∀ j, ∃ u, f j = .pointer u) ∧ G1 w.heap.size nn lst fv w2 ∧ Kept (fun _ => False) w w2)
      case atStart => exact ⟨0, _, by omega, rfl, HR.out, fun _ => ⟨none, rfl⟩, HG.out, HK.out⟩
      case round =>
        clear HR HG HK
        obtain ⟨k2, f, hk2, rfl, hr, hf, hg, hkept⟩ := hrel
        have HRW := mkHid hr
        have HG := mkHid hg
        have HK := mkHid hkept
        have HF := mkHid hf
        by_cases hlt2 : k2 < nn
        · have c1 := hr.cell hlt2
          have f1 := hr.frozen k2
          have l1 := hr.lt
          obtain ⟨u, hu⟩ := hf k2
          rw [hu] at c1
          clear hr hg hkept hf hu
          go_wp2
          go_roundg (gk - 1)
          case measure => omega
          case rel =>
            have k1 : Kept (fun b => b = X) wr (wr.setCell ⟨X, k2, none⟩ (.pointer (some ⟨wr.heap.size, 0, none⟩))) := (Kept.refl (fun b => b = X) wr).setCell (p := ⟨X, k2, none⟩) (.inl rfl) _
            refine ⟨k2 + 1, _, by omega, by go_num, (HRW.out.set k2 _).alloc _, fun j => ?_, (HG.out.kept' k1 (by omega) (by omega) (fun t a g ha hg e => by have := HB.out t a g ha hg; omega)).one _, (HK.out.setCell (p := ⟨X, k2, none⟩) (.inr (by show w.heap.size ≤ X; omega)) _).alloc _⟩
            obtain ⟨u2, hu2⟩ := HF.out j
            by_cases e : j = k2
            · exact ⟨_, if_pos e⟩
            · exact ⟨u2, by simp only [if_neg e]; exact hu2⟩
        · have HXL := mkHid hr.lt
          clear hr hg hkept hf HF
          have m3 := make41 nn (by omega)
          have m4 := make47 W (((nn : Int) + 63) / 64) HW.out (by have := HW.out; omega)
          go_wp2
          go_cut [18] (fun c wx => ∃ C L E N, c = .pointer (some ⟨C, 0, none⟩) ∧ Made (wr.alloc (.cells #[.slice (some ⟨X, 0, none⟩) nn nn, .slice none 0 0, .slice (some ⟨w.heap.size + 1, 0, none⟩) nn nn, .slice (some ⟨w.heap.size, 0, none⟩) nn nn] 37)) wr.heap.size nn W C L E N wx)
          case first =>
            go_region
            all_goals
              go_wp2_with fail
              go_meet
              have e0 : (wr.alloc (.cells #[.slice (some ⟨X, 0, none⟩) nn nn, .slice none 0 0, .slice (some ⟨w.heap.size + 1, 0, none⟩) nn nn, .slice (some ⟨w.heap.size, 0, none⟩) nn nn] 37)).heap.size = wr.heap.size + 1 := by simp
              refine ⟨_, _, _, _, rfl, Made.mk' (get4 _ _ _ _ _ (wr.heap.size + 1) e0).2.2.2 ?_ ?_ ?_ (((((Kept.refl _ _).alloc _).alloc _).alloc _).alloc _).drew (by rw [e0]; omega) (by omega)⟩
              · first | exact (get4 _ _ _ _ _ (wr.heap.size + 1) e0).1 | exact (get4 _ _ _ _ _ (wr.heap.size + 1) e0).2.1 | exact (get4 _ _ _ _ _ (wr.heap.size + 1) e0).2.2.1
              · first | exact (get4 _ _ _ _ _ (wr.heap.size + 1) e0).1 | exact (get4 _ _ _ _ _ (wr.heap.size + 1) e0).2.1 | exact (get4 _ _ _ _ _ (wr.heap.size + 1) e0).2.2.1
              · first | exact (get4 _ _ _ _ _ (wr.heap.size + 1) e0).1 | exact (get4 _ _ _ _ _ (wr.heap.size + 1) e0).2.1 | exact (get4 _ _ _ _ _ (wr.heap.size + 1) e0).2.2.1
          case rest =>
            obtain ⟨C, L, E, N, rfl, hm⟩ := hcut
            obtain ⟨ok, hLL, hfin⟩ := lay_ok hn0 hn3 HW.out HUP.out (fun t a => Nat.le_trans (HLN.out t a) hne) HG.out HK.out hm
            have hx : x < nn := by have := HX.out; have := Int.emod_lt_of_pos (i : Int) (show (0 : Int) < nn by omega); omega
            have hW5 : W ≤ 5 := by have := HW.out; omega
            have OK := mkHid ok
            have HF := mkHid hfin
            rw [HW.out]
            clear hm ok hfin HW HG HK HRW HUP HLN HB m3 m4 HC hnn
            go_wp2_with fail
            rw [HX.out]
            refine (after_fx OK.out hLL hx HF.out).mono ?_
            rintro e wa ⟨ab, lva, rfl, ha1, ha2, ha3, _⟩
            have HA1 := mkHid ha1
            have HA2 := mkHid ha2
            have HA3 := mkHid ha3
            clear ha1 ha2 ha3 HF HX
            go_wp2_with fail
            refine (breach_fx OK.out hx HA2.out).mono ?_
            rintro e wb ⟨bb, rfl, hb1, hb2, hb3, hb4⟩
            have HS1 := mkHid (RowF.kept HA3.out hb3 (fun h => h))
            have HF1 := mkHid hb4
            have HS2 := mkHid hb1
            have hbL : bb ≠ L := by have := HA2.out.ltL OK.out; omega
            clear hb1 hb2 hb3 hb4 HA3
            go_wp2_with fail
            refine (equal_any ab bb W _ wb hW5 HS1.out HS2.out).mono ?_
            rintro e wd ⟨rfl, q1, rfl⟩
            have q2 := HF1.out.c1
            have q3 := HF1.out.later hx
            simp only [HA1.out, setV] at q3
            have en := eql_nil
            go_wp2_with fail
            refine (equal_any ab bb W _ _ hW5 (RowF.drewN HS1.out q1) (RowF.drewN HS2.out q1)).mono ?_
            rintro e wd ⟨rfl, q4, rfl⟩
            clear q2 q3
            go_wp2_with fail
            have HFL := mkHid (HF1.out.drewN OK.out (q1 + q4))
            have HSL := mkHid (RowF.drewN HS2.out (q1 + q4))
            clear HF1 HS1 HS2 HXL HA2
            generalize wr.heap.size = Pb at *
            generalize wc.heap.size = Bb at *
            go_loopg [22] nn (fun g ix w3 => ∃ k3 : Nat, k3 + g = nn ∧ ix = .int .i64 k3 ∧ Fin (layOf nn W (lst false) C Pb X w.heap.size L N Bb (fv false)) E w lva w3 ∧ SetAt w3 bb W (R (lst false) nn x))
            case atStart => exact ⟨0, by omega, rfl, HFL.out, HSL.out⟩
            case round =>
              clear HFL HSL
              obtain ⟨k3, hk3, rfl, hf3, hs3⟩ := hrel
              have HF3 := mkHid hf3
              have HS3 := mkHid hs3
              by_cases hl3 : k3 < nn
              · have z1 := hf3.c1
                have z2 := hf3.c2'
                have z3 := hf3.earlier hl3
                have z4 := hf3.later hl3
                clear hf3 hs3
                cases hv : lva k3 with
                | none =>
                  simp only [hv, setV] at z4
                  clear hv
                  go_wp2
                  go_roundg (gk - 1)
                  case measure => omega
                  case rel => exact ⟨k3 + 1, by omega, by go_num, HF3.out, HS3.out⟩
                | some b3 =>
                  simp only [hv, setV] at z4
                  have HV := mkHid hv
                  clear hv
                  go_wp2
                  go_region_held3 (fun w' => w'.cell? ⟨C, 1, none⟩ = some (.slice (some ⟨L, 0, none⟩) nn nn) ∧ w'.cell? ⟨L, k3, none⟩ = some (.slice (some ⟨b3, 0, none⟩) W W)) (refine ⟨?_, ?_⟩ <;> assumption)
                    (first
                      | (go_at_call 5; refine (breach_fx OK.out hl3 (HF3.out.drewN OK.out 1)).mono ?_; rintro e w5 ⟨b5, rfl, y1, y2, y3, y4⟩; have z5 := y4.c1; have z6 : w5.cell? ⟨L, k3, none⟩ = some (.slice (some ⟨b3, 0, none⟩) W W) := (by have := y4.later hl3; rw [HV.out] at this; exact this); have HY1 := mkHid y1; have HY3 := mkHid y3; have HY4 := mkHid y4; clear y1 y2 y3 y4)
                      | (go_at_call 6; refine (equal_any b3 b5 W _ _ hW5 (HY4.out.set HV.out) HY1.out).mono ?_; rintro e w6 ⟨rfl, q6, rfl⟩; have z7 : (w5.drewN q6).cell? ⟨C, 1, none⟩ = _ := z5; have z8 : (w5.drewN q6).cell? ⟨L, k3, none⟩ = _ := z6))
                  clear z1 z2 z3 z4 z5 z6 z7 z8
                  go_wp2
                  go_roundg (gk - 1)
                  case measure => omega
                  case rel => exact ⟨k3 + 1, by omega, by go_num, HY4.out.drewN OK.out q6, RowF.drewN (RowF.kept (RowF.drewN HS3.out 1) HY3.out (fun h => h)) q6⟩
              · have z1 := hf3.c3
                clear hf3 hs3
                go_wp2
                clear z1
                go_loopg [23] W (fun g ix w4 => ∃ k4 : Nat, k4 + g = W ∧ ix = .int .i64 k4 ∧ Fin (layOf nn W (lst false) C Pb X w.heap.size L N Bb (fv false)) E w lva w4 ∧ SetAt w4 bb W (R (lst false) nn x))
                case atStart => exact ⟨0, by omega, rfl, HF3.out, HS3.out⟩
                case round =>
                  clear HF3 HS3
                  obtain ⟨k4, hk4, rfl, hf4, hs4⟩ := hrel
                  have HF4 := mkHid hf4
                  have HS4 := mkHid hs4
                  have z1 := hf4.c3
                  by_cases hl4 : k4 < W
                  · have z2 := hf4.none0 hl4
                    clear hf4 hs4
                    go_wp2
                    go_roundg (gk - 1)
                    case measure => omega
                    case rel => exact ⟨k4 + 1, by omega, by go_num, HF4.out, HS4.out⟩
                  · clear hf4 hs4 z1
                    go_wp2_with fail
                    refine (after_fx OK.out hLL hx HF4.out).mono ?_
                    rintro e w7 ⟨b7, lv7, rfl, _, y2, y3, y4⟩
                    have HY2 := mkHid y2
                    have HY3 := mkHid y3
                    have HY4 := mkHid (RowF.kept HS4.out y4 hbL)
                    clear y2 y3 y4
                    go_wp2_with fail
                    refine (equal_any b7 bb W _ _ hW5 HY3.out HY4.out).mono ?_
                    rintro e w8 ⟨rfl, q8, rfl⟩
                    go_wp2_with fail
                    go_ret
                    exact ⟨rfl, (HY2.out.drewN OK.out q8).below⟩

set_option maxRecDepth 100000 in
theorem law_long (n i : Nat) (ao : Option Addr) (ne cap : Nat) (w : World) (hne : 65536 < ne) :
    Calls Yba.prog 3 #[.int .u16 n, .slice ao ne cap, .int .u16 i] w fun e w' => e = .returned (.bool true) ∧ Below w.heap.size w w' := by
  go_enter Yba.func3, Yba.ntmps3
  go_wp2
  go_ret
  exact ⟨rfl, Below.refl _ _⟩
end Go.Proofs.Ybulkexnyi
