/-
  zzs194059breach
-/
import Derived.Test.YbulkexnyiWork
import Derived.Test.YbulkexnyiReach
namespace Go.Proofs.Ybulkexnyi
open Go Go.RowKit

theorem make4 (n : Nat) (hn : n ≤ 65536) (w : World) : (Instr.makeSlice 50 (.int .i64 n) (.int .i64 n)).run Yba.prog w = .ok (.slice (some ⟨w.heap.size, 0, none⟩) n n) (w.alloc (.cells (madeCells #[.bool false] n) 4)) := by
  obtain ⟨i, hi, hz, hs, hb⟩ := info_parts' (show (Yba.prog.info? 4).map (fun i => (i.zero, i.size, i.bytes)) = some (some (.bool false), 1, 1) by kernel_rfl)
  have := run_make (P := Yba.prog) w 50 4 i _ Yba.underlying50 hi hz .i64 .i64 n n (by omega) (Int.le_refl _) (by rw [hb]; omega) (by omega)
  simpa [hs, Value.cells] using this
theorem make3 (n : Nat) (hn : n ≤ 65536) (w : World) : (Instr.makeSlice 27 (.int .i64 0) (.int .i64 n)).run Yba.prog w = .ok (.slice (some ⟨w.heap.size, 0, none⟩) 0 n) (w.alloc (.cells (madeCells #[.int .i64 0] n) 3)) := by
  obtain ⟨i, hi, hz, hs, hb⟩ := info_parts' (show (Yba.prog.info? 3).map (fun i => (i.zero, i.size, i.bytes)) = some (some (.int .i64 0), 1, 8) by kernel_rfl)
  have := run_make (P := Yba.prog) w 27 3 i _ Yba.underlying27 hi hz .i64 .i64 0 n (by omega) (by omega) (by rw [hb]; omega) (by omega)
  simpa [hs, Value.cells] using this

/-- The links in memory. -/
structure Adj (y : Lay) (w : World) : Prop where
  af : RowF w y.Af 27 y.nn y.av
  rows : ∀ a, a < y.nn → w.ownsRow 0 3 1 (y.av a) (y.aft a).length ((y.aft a).map fun x : Nat => Value.int .i64 x)

theorem Adj.kept {y : Lay} {w w' : World} (h : Adj y w) (k : Kept (fun _ => False) w w') : Adj y w' :=
  ⟨h.af.kept k (fun h => h), fun a ha => ownsRow_of_block (h.rows a ha) fun g hg => k.block g (ownsRow_lt (h.rows a ha) hg) (fun h => h)⟩

theorem Wk.start (y : Lay) (ok : y.Ok) (w : World) : Wk y w (fun _ => false) (fun _ => false) [] (.slice (some ⟨w.heap.size + 1 + 1, 0, none⟩) 0 y.nn)
    (((w.alloc (.cells (madeCells #[.int .u64 0] y.W) 47)).alloc (.cells (madeCells #[.bool false] y.nn) 4)).alloc (.cells (madeCells #[.int .i64 0] y.nn) 3)) := by
  have hn := ok.hn
  refine ⟨RowF.alloc (RowF.alloc (SetAt.new w y.W) _) _, ?_, ?_, ⟨_, _, rfl⟩, ((((Kept.refl _ _).alloc _).alloc _).alloc _), by simp⟩
  · have := RowF.alloc_new (w.alloc (.cells (madeCells #[.int .u64 0] y.W) 47)) 4 (madeCells #[.bool false] y.nn) y.nn (fun _ => .bool false) (by rw [toList_madeCells_one, replicate_range])
    rw [World.size_alloc] at this
    exact this.alloc _
  · have := World.ownsRow_made (base := w.heap.size + 2) (e := 3) (size := 1) ((w.alloc (.cells (madeCells #[.int .u64 0] y.W) 47)).alloc (.cells (madeCells #[.bool false] y.nn) 4)) (madeCells #[.int .i64 0] y.nn) y.nn (by simp) (by simp [maxLen]; omega) (by simp [size_madeCells])
    rw [World.size_alloc, World.size_alloc] at this
    exact this

theorem av_shape {y : Lay} {w : World} (h : Adj y w) {z : Nat} (hz : z < y.nn) : ∃ ao cap, y.av z = .slice ao (y.aft z).length cap := by
  rcases (h.rows z hz).2 with ⟨e, h0⟩ | ⟨g, cap, cur, e, _⟩
  · exact ⟨none, 0, by rw [e, h0]⟩
  · exact ⟨_, cap, e⟩

theorem Yba.info3 : (Yba.prog.info? 3).map (fun i => (i.zero, i.size, i.bytes)) = some (some (.int .i64 0), 1, 8) := by kernel_rfl

theorem top_cell {w : World} {base g cap : Nat} {stk : List Nat} {z : Nat} (h : w.ownsRow base 3 1 (.slice (some ⟨g, 0, none⟩) (stk.length + 1) cap) (stk ++ [z]).length (ints (stk ++ [z]))) :
    w.cell? ⟨g, stk.length, none⟩ = some (.int .i64 z) ∧ stk.length + 1 ≤ cap := by
  rcases h.2 with ⟨e, _⟩ | ⟨g', cap', cur, hv, _, hh, hc, _, _, ht⟩
  · cases e
  · simp only [Value.slice.injEq, Option.some.injEq, Addr.mk.injEq, and_true] at hv
    obtain ⟨rfl, _, rfl⟩ := hv
    refine ⟨?_, by simpa using hc⟩
    simp only [World.cell?, hh]
    have h2 := congrArg (fun l => l[stk.length]?) ht
    simp only [Nat.mul_one] at h2
    rw [List.getElem?_take_of_lt (by simp)] at h2
    simpa [ints] using h2

set_option maxHeartbeats 1600000 in
theorem breach_any (y : Lay) (ok : y.Ok) (x : Nat) (hx : x < y.nn) (w : World) (ha : Adj y w) :
    Calls Yba.prog 5 #[.slice (some ⟨y.Af, 0, none⟩) y.nn y.nn, .int .i64 y.nn, .int .i64 x] w fun e w' =>
      ∃ b, e = .returned (.slice (some ⟨b, 0, none⟩) y.W y.W) ∧ SetAt w' b y.W (R y.aft y.nn x) ∧ w.heap.size ≤ b ∧ Kept (fun _ => False) w w' := by
  have hn := ok.hn
  have hW := ok.hW
  have m1 := make47 y.W (((y.nn : Int) + 63) / 64) (by omega) (by omega)
  have m2 := make4 y.nn (by omega)
  have m3 := make3 y.nn (by omega)
  have hAf : y.Af < w.heap.size := ha.af.lt
  have hAf1 : y.Af < w.heap.size + 1 := by omega
  have hAf2 : y.Af < w.heap.size + 1 + 1 := by omega
  have q0 := ha.af.cell hx
  obtain ⟨ao, cap, hav⟩ := av_shape ha hx
  rw [hav] at q0
  have HAV := mkHid hav
  have HA := mkHid ha
  have hlen := ok.len x hx
  clear ha hav hW
  go_enter Yba.func5, Yba.ntmps5
  go_wp2
  clear m1 m2 m3
  go_loopg [10, 30] (y.aft x).length (fun g sv ix wr => ∃ (k : Nat) (S : Nat → Bool) (stk : List Nat), k + g = (y.aft x).length ∧ ix = .int .i64 k ∧ Wk y w S (fun _ => false) stk sv wr ∧ PI y.aft y.nn x S (fun _ => false) stk ∧
    (∀ z, z ∈ (y.aft x).take k → S z = true) ∧ cnt y.nn S + stk.length = y.nn)
  case atStart => exact ⟨0, fun _ => false, [], by omega, rfl, Wk.start y ok w, ⟨fun i => by simp, fun i h => by simp at h⟩, fun z hz => by simp at hz, by simp [cnt_full]⟩
  case round =>
    obtain ⟨k, S, stk, hk, rfl, hwk, hpi, htk, hc⟩ := hrel
    have HWK := mkHid hwk
    have HPI := mkHid hpi
    have HT := mkHid htk
    have HCN := mkHid hc
    obtain ⟨sg, scap, hsv⟩ := hwk.shape
    subst hsv
    by_cases hlt : k < (y.aft x).length
    · obtain ⟨g, cap', hv, hcell⟩ := int_cell ((HA.out.kept hwk.kept).rows x hx) hlt
      have e1 := HAV.out.symm.trans hv
      simp only [Value.slice.injEq, true_and] at e1
      obtain ⟨rfl, rfl⟩ := e1
      have hj := ok.up x _ (List.getElem_mem hlt)
      obtain ⟨j, hje⟩ : ∃ j, j = (y.aft x)[k] := ⟨_, rfl⟩
      rw [← hje] at hcell hj
      have HJ := mkHid hje
      have c1 := hwk.seen.cell hj.2
      have f1 := hwk.seen.frozen j
      have l1 := hwk.seen.lt
      clear hwk hpi htk hc hv hje q0
      cases hS : S j with
      | true =>
        rw [hS] at c1
        have HS := mkHid hS
        clear hS
        go_wp2
        go_roundg (gk - 1)
        case measure => omega
        case rel =>
          refine ⟨k + 1, S, stk, by omega, by go_num, HWK.out, HPI.out, fun z hz => ?_, HCN.out⟩
          rw [List.take_succ_eq_append_getElem hlt, ← HJ.out, List.mem_append, List.mem_singleton] at hz
          rcases hz with hz | rfl
          · exact HT.out z hz
          · exact HS.out
      | false =>
        rw [hS] at c1
        have HS := mkHid hS
        clear hS
        have HPR := mkHid (HWK.out.pre j)
        have hlt2 : stk.length ≤ 300 := by have := HCN.out; omega
        obtain ⟨i0, hi0, hz0, hz1, hz2⟩ := info_parts' Yba.info3
        go_wp2_with (at_builtin; refine wpList_append_own _ rfl (.tmp 42) (.tmp 44) 27 rfl (w.heap.size + 2) 3 i0 (.int .i64 0) 1 8 Yba.underlying27 hi0 hz0 hz1 hz2 rfl (by decide) (.slice (some ⟨sg, 0, none⟩) stk.length scap) stk.length (ints stk) rfl HPR.out.1 ⟨wr.heap.size, 0, none⟩ 1 1 [.int .i64 j] rfl rfl HPR.out.2.1 (by intro u hu; simp at hu; subst hu; rfl) (by unfold maxLen; omega) (by omega) HPR.out.2.2 ?_; intro v' w2 ho hg hn'; have HP := mkHid (HWK.out.push j ho hg (fun e => by have := hn'.1 e; simp at this)); clear ho hg hn')
        go_roundg (gk - 1)
        case measure => omega
        case rel =>
          refine ⟨k + 1, put S j, stk ++ [j], by omega, by go_num, HP.out, HPI.out.push (HJ.out ▸ R_link ok.up (List.getElem_mem hlt)), fun z hz => ?_, ?_⟩
          · rw [List.take_succ_eq_append_getElem hlt, ← HJ.out, List.mem_append, List.mem_singleton] at hz
            rcases hz with hz | rfl
            · exact put_of _ _ _ (HT.out z hz)
            · exact put_same _ _
          · have h1 := cnt_put y.nn S j hj.2 HS.out
            have h2 := HCN.out
            simp only [List.length_append, List.length_singleton]
            omega
    · have HX := mkHid (show ∀ z, z ∈ y.aft x → S z = true from fun z hz => HT.out z (by rw [List.take_of_length_le (by omega)]; exact hz))
      clear hwk hpi htk hc q0 HT
      go_wp2
      go_loopg [10] y.nn (fun g sv wr => ∃ (S p : Nat → Bool) (stk : List Nat), Wk y w S p stk sv wr ∧ PI y.aft y.nn x S p stk ∧ (∀ z, z ∈ y.aft x → S z = true) ∧
        (∀ i, p i = true → ∀ z, z ∈ y.aft i → S z = true) ∧ cnt y.nn S + stk.length = g ∧ g ≤ y.nn)
      case atStart => exact ⟨S, fun _ => false, stk, HWK.out, HPI.out, HX.out, fun i hi => by simp at hi, HCN.out, Nat.le_refl _⟩
      case round =>
        clear HWK HPI HX HCN
        obtain ⟨S, p, stk0, hwk, hpi, hx0, hsh, hc, hcn⟩ := hrel
        obtain ⟨G, hG⟩ : ∃ G, G = gk := ⟨_, rfl⟩
        subst hG
        have HPI := mkHid hpi
        have HX := mkHid hx0
        have HSH := mkHid hsh
        have HCN := mkHid hc
        obtain ⟨sg, scap, hsv⟩ := hwk.shape
        subst hsv
        by_cases hem : stk0 = []
        · subst hem
          have HWK := mkHid hwk
          clear hwk hpi hx0 hsh hc
          go_wp2
          go_ret
          refine ⟨w.heap.size, rfl, SetAt.congr HWK.out.set fun q _ => ?_, Nat.le_refl _, HWK.out.kept⟩
          have hSp : ∀ i, S i = true ↔ p i = true := fun i => by rw [HPI.out.s i]; simp
          have e : S q = p q := Bool.eq_iff_iff.2 (hSp q)
          rw [← e]
          exact R_eq HX.out (fun i hi z hz => HSH.out i ((hSp i).1 hi) z hz) HPI.out.r q
        · obtain ⟨stk, z, rfl⟩ : ∃ stk z, stk0 = stk ++ [z] := ⟨stk0.dropLast, stk0.getLast hem, (List.dropLast_concat_getLast hem).symm⟩
          have hS : S z = true := (hpi.s z).2 (.inr (by simp))
          have hR := hpi.r z hS
          have hz := (R_lt ok.up y.nn x z hR).2
          have HR := mkHid hR
          rw [show (stk ++ [z]).length = stk.length + 1 by simp] at hwk
          have htop := top_cell hwk.own
          have q1 := htop.1
          have q2 := htop.2
          have q3 := RowF.cell hwk.set (i := z / 64) (by have := ok.hW; omega)
          have q4 := RowF.frozen hwk.set (z / 64)
          have q5 : (z : Int) / 64 < (y.W : Int) := by have := ok.hW; omega
          have q6 := (HA.out.kept hwk.kept).af.cell hz
          obtain ⟨ao2, cap2, hav2⟩ := av_shape HA.out hz
          rw [hav2] at q6
          have HAV2 := mkHid hav2
          have q7 : ¬ y.Af = w.heap.size := by omega
          have hlen2 := ok.len z hz
          have HWP := mkHid hwk.pop
          have hcl : stk.length ≤ 300 := by have := HCN.out; simp only [List.length_append, List.length_singleton] at this; omega
          rw [show (stk ++ [z]).length = stk.length + 1 by simp]
          clear hwk hpi hx0 hsh hc hS hR htop hem hav2
          go_wp2
          have HG : Hid (cnt y.nn S + stk.length + 1 = G) := by
            have := HCN.out
            simp only [List.length_append, List.length_singleton] at this
            exact (by omega : cnt y.nn S + stk.length + 1 = G)
          have HSH2 := mkHid (show ∀ i, p i = true → ∀ u, u ∈ y.aft i → S u = true from HSH.out)
          have HPP := mkHid HPI.out.pop
          have HX2 := mkHid HX.out
          generalize hp2 : put p z = p2 at HWP HPP
          have HP2 := mkHid hp2
          clear hp2 q1 q2 q3 q4 q5 q6 q7 hcl HPI HX HSH HCN
          go_loopg [10, 77] (y.aft z).length (fun g sv ix w3 => ∃ (k : Nat) (S : Nat → Bool) (stk : List Nat), k + g = (y.aft z).length ∧ ix = .int .i64 k ∧ Wk y w S p2 stk sv w3 ∧ PI y.aft y.nn x S p2 stk ∧
            (∀ u, u ∈ y.aft x → S u = true) ∧ (∀ i, p i = true → ∀ u, u ∈ y.aft i → S u = true) ∧ (∀ u, u ∈ (y.aft z).take k → S u = true) ∧ cnt y.nn S + stk.length + 1 = G)
          case atStart =>
            refine ⟨0, S, stk, by omega, rfl, ?_, HPP.out, HX2.out, HSH2.out, fun u hu => by simp at hu, HG.out⟩
            rw [or_word]
            exact HWP.out
          case round =>
            clear HG HSH2 HPP HX2 HWP
            obtain ⟨k, S, stk, hk, rfl, hwk, hpi, hx0, hsh, htk, hc⟩ := hrel
            have HWK := mkHid hwk
            have HPI := mkHid hpi
            have HX := mkHid hx0
            have HSH := mkHid hsh
            have HT := mkHid htk
            have HCN3 := mkHid hc
            obtain ⟨sg, scap, hsv⟩ := hwk.shape
            subst hsv
            by_cases hlt : k < (y.aft z).length
            · obtain ⟨g, cap', hv, hcell⟩ := int_cell ((HA.out.kept hwk.kept).rows z hz) hlt
              have e1 := HAV2.out.symm.trans hv
              simp only [Value.slice.injEq, true_and] at e1
              obtain ⟨rfl, rfl⟩ := e1
              have hj := ok.up z _ (List.getElem_mem hlt)
              obtain ⟨j, hje⟩ : ∃ j, j = (y.aft z)[k] := ⟨_, rfl⟩
              rw [← hje] at hcell hj
              have HJ := mkHid hje
              have c1 := hwk.seen.cell hj.2
              have f1 := hwk.seen.frozen j
              have l1 := hwk.seen.lt
              clear hwk hpi hx0 hsh htk hc hv hje
              cases hS : S j with
              | true =>
                rw [hS] at c1
                have HS := mkHid hS
                clear hS
                go_wp2
                go_roundg (gk - 1)
                case measure => omega
                case rel =>
                  refine ⟨k + 1, S, stk, by omega, by go_num, HWK.out, HPI.out, HX.out, HSH.out, fun u hu => ?_, HCN3.out⟩
                  rw [List.take_succ_eq_append_getElem hlt, ← HJ.out, List.mem_append, List.mem_singleton] at hu
                  rcases hu with hu | rfl
                  · exact HT.out u hu
                  · exact HS.out
              | false =>
                rw [hS] at c1
                have HS := mkHid hS
                clear hS
                have HPR := mkHid (HWK.out.pre j)
                have hlt2 : stk.length ≤ 300 := by have := HCN3.out; omega
                obtain ⟨i0, hi0, hz0, hz1, hz2⟩ := info_parts' Yba.info3
                go_wp2_with (at_builtin; refine wpList_append_own _ rfl (.tmp 89) (.tmp 91) 27 rfl (w.heap.size + 2) 3 i0 (.int .i64 0) 1 8 Yba.underlying27 hi0 hz0 hz1 hz2 rfl (by decide) (.slice (some ⟨sg, 0, none⟩) stk.length scap) stk.length (ints stk) rfl HPR.out.1 ⟨wr.heap.size, 0, none⟩ 1 1 [.int .i64 j] rfl rfl HPR.out.2.1 (by intro u hu; simp at hu; subst hu; rfl) (by unfold maxLen; omega) (by omega) HPR.out.2.2 ?_; intro v' w2 ho hg hn'; have HP := mkHid (HWK.out.push j ho hg (fun e => by have := hn'.1 e; simp at this)); clear ho hg hn')
                go_roundg (gk - 1)
                case measure => omega
                case rel =>
                  refine ⟨k + 1, put S j, stk ++ [j], by omega, by go_num, HP.out, HPI.out.push (HJ.out ▸ R_step ok.up HR.out (List.getElem_mem hlt)), fun u hu => put_of _ _ _ (HX.out u hu), fun i hi u hu => put_of _ _ _ (HSH.out i hi u hu), fun u hu => ?_, ?_⟩
                  · rw [List.take_succ_eq_append_getElem hlt, ← HJ.out, List.mem_append, List.mem_singleton] at hu
                    rcases hu with hu | rfl
                    · exact put_of _ _ _ (HT.out u hu)
                    · exact put_same _ _
                  · have h1 := cnt_put y.nn S j hj.2 HS.out
                    have h2 := HCN3.out
                    simp only [List.length_append, List.length_singleton]
                    omega
            · have HX3 := mkHid (show ∀ u, u ∈ y.aft z → S u = true from fun u hu => HT.out u (by rw [List.take_of_length_le (by omega)]; exact hu))
              clear hwk hpi hx0 hsh htk hc HT
              go_wp2
              go_roundg (G - 1)
              case measure =>
                have := HCN3.out
                omega
              case rel =>
                refine ⟨S, p2, stk, HWK.out, HPI.out, HX.out, fun i hi u hu => ?_, by have := HCN3.out; omega, by omega⟩
                rw [← HP2.out, put_iff] at hi
                rcases hi with rfl | hi
                · exact HX3.out u hu
                · exact HSH.out i hi u hu
end Go.Proofs.Ybulkexnyi
