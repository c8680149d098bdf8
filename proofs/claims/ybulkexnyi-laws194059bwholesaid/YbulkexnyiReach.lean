/-
  Closure.reach
-/
import Derived.Test.YbulkexnyiClo
namespace Go.Proofs.Ybulkexnyi
open Go Go.RowKit


theorem mkHid {p : Prop} (h : p) : Hid p := h

def AfterAt (y : Lay) (j : Nat) : Prop := ∀ (w : World) (lv : Nat → Option Nat), Stat y w → Dyn y w lv →
  Calls Yba.prog 4 #[.pointer (some ⟨y.C, 0, none⟩), .int .i64 j] w fun e w' => ∃ b lv', e = .returned (.slice (some ⟨b, 0, none⟩) y.W y.W) ∧ lv' j = some b ∧ Left y w lv w' lv'

set_option maxHeartbeats 1600000 in
theorem reach_any (y : Lay) (ok : y.Ok) (i : Nat) (hi : i < y.nn) (ih : Hid (∀ j, i < j → j < y.nn → AfterAt y j)) (w : World) (lv : Nat → Option Nat) (hs : Stat y w) (hd : Dyn y w lv) :
    Calls Yba.prog 7 #[.pointer (some ⟨y.C, 0, none⟩), y.av i, .func (.func 4) #[.pointer (some ⟨y.C, 0, none⟩)] #[]] w fun e w' =>
      ∃ b lv', e = .returned (.slice (some ⟨b, 0, none⟩) y.W y.W) ∧ SetAt w' b y.W (R y.aft y.nn i) ∧ b ≠ y.L ∧ (b = y.N ∨ w.heap.size ≤ b) ∧ Left y w lv w' lv' := by
  obtain ⟨ao, cap, hav⟩ : ∃ ao cap, y.av i = .slice ao (y.aft i).length cap := by
    rcases (hs.rows i hi).2 with ⟨e, h0⟩ | ⟨g, cap, cur, e, _⟩
    · exact ⟨none, 0, by rw [e, h0]⟩
    · exact ⟨_, cap, e⟩
  have HAV : Hid (y.av i = .slice ao (y.aft i).length cap) := hav
  rw [hav]
  have hlen := ok.len i hi
  clear hav
  go_enter Yba.func7, Yba.ntmps7
  go_wp2
  go_loopg [7, 12] (y.aft i).length (fun g s ix wr => ∃ (k : Nat) (lv1 : Nat → Option Nat), k + g = (y.aft i).length ∧ ix = .int .i64 k ∧ Left y w lv wr lv1 ∧
    ((k = 0 ∧ s = .slice none 0 0) ∨ (0 < k ∧ ∃ sb, s = .slice (some ⟨sb, 0, none⟩) y.W y.W ∧ Own y w wr lv1 sb (through y.aft y.nn ((y.aft i).take k)))))
  case atStart => exact ⟨0, lv, by omega, rfl, Left.refl hs hd, .inl ⟨rfl, rfl⟩⟩
  case round =>
    obtain ⟨k, lv1, hk, rfl, hl, hsb⟩ := hrel
    have HL : Hid (Left y w lv wr lv1) := hl
    by_cases hlt : k < (y.aft i).length
    · obtain ⟨g, cap', hv, hc⟩ := int_cell (hl.stat.rows i hi) hlt
      have e1 := HAV.out.symm.trans hv
      simp only [Value.slice.injEq, true_and] at e1
      obtain ⟨rfl, rfl⟩ := e1
      have hj := ok.up i _ (List.getElem_mem hlt)
      obtain ⟨j, hje⟩ : ∃ j, j = (y.aft i)[k] := ⟨_, rfl⟩
      rw [← hje] at hc hj
      have HJ : Hid (j = (y.aft i)[k]) := hje
      have hJ : j < 64 * y.W := by have := ok.hW; omega
      have hW5 : y.W ≤ 5 := by have := ok.hW; have := ok.hn; omega
      have ihj := ih.out j hj.1 hj.2
      have HIH : Hid (AfterAt y j) := ihj
      have HS : Hid (Stat y w) := hs
      have en := eql_nil
      clear ihj
      have hJ : j < 64 * y.W := by have := ok.hW; omega
      have hW5 : y.W ≤ 5 := by have := ok.hW; have := ok.hn; omega
      have ihj := ih.out j hj.1 hj.2
      have HIH : Hid (AfterAt y j) := ihj
      have HS : Hid (Stat y w) := hs
      have en := eql_nil
      clear ihj
      rcases hsb with ⟨rfl, rfl⟩ | ⟨hk0, sb, rfl, hown⟩
      · have q1 := hl.stat.c0
        have q2 := hl.stat.p0
        have N1 := Own.new ok hl
        have HN1 : Hid _ := N1
        clear hs hd hl hv hje N1
        go_wp2_with fail
        refine (newset_any y.nn y.W ok.hn ok.hW _).mono ?_
        rintro e w1 ⟨rfl, rfl⟩
        go_wp2_with fail
        refine (add_any wr.heap.size y.W j (fun _ => false) _ hW5 hJ HN1.out.2.set).mono ?_
        rintro e w2 ⟨rfl, a1, a2⟩
        have HN2 : Hid _ := Own.step ok HS.out HN1.out.1 HN1.out.2 a1 a2
        clear a1 a2 q1 q2
        go_wp2_with fail
        refine (HIH.out w2 lv1 HN2.out.1.stat HN2.out.1.dyn).mono ?_
        rintro e w3 ⟨b, lv2, rfl, b1, b2⟩
        have HN3 : Hid _ := Own.call ok HS.out HN2.out.1 HN2.out.2 b1 b2
        clear b1 b2
        go_wp2_with fail
        refine (union_any wr.heap.size b y.W _ _ w3 hW5 HN3.out.2.2.2 HN3.out.2.1.set HN3.out.2.2.1).mono ?_
        rintro e w4 ⟨rfl, c1, c2⟩
        have HN4 : Hid _ := Own.step ok HS.out HN3.out.1 HN3.out.2.1 c1 c2
        clear c1 c2
        go_wp2_with fail
        go_roundg (gk - 1)
        case measure => omega
        case rel =>
          refine ⟨1, lv2, by omega, by go_num, HN4.out.1, .inr ⟨by omega, wr.heap.size, rfl, ⟨SetAt.congr HN4.out.2.set fun q _ => ?_, HN4.out.2.old, HN4.out.2.other⟩⟩⟩
          rw [List.take_succ_eq_append_getElem hlt, List.take_zero, List.nil_append, ← HJ.out]
          have hq : (q == j) = (j == q) := BEq.comm
          simp [through, hq]
      · have hh := has_any sb y.W j _ wr hW5 hJ hown.set
        have HO : Hid (Own y w wr lv1 sb (through y.aft y.nn ((y.aft i).take k))) := hown
        cases hp : through y.aft y.nn ((y.aft i).take k) j with
        | true =>
          rw [hp] at hh
          have HH := mkHid hh
          have HP : Hid (through y.aft y.nn ((y.aft i).take k) j = true) := hp
          clear hs hd hl hv hje hh hown hp
          go_wp2_with fail
          refine HH.out.mono ?_
          rintro e w1 ⟨rfl, q, rfl⟩
          have HN1 : Hid _ := Own.step (w2 := wr.drewN q) ok HS.out HL.out HO.out (RowF.drewN HO.out.set q) ((Kept.refl (· = sb) wr).drewN q)
          go_wp2_with fail
          go_roundg (gk - 1)
          case measure => omega
          case rel =>
            refine ⟨k + 1, lv1, by omega, by go_num, HN1.out.1, .inr ⟨by omega, sb, rfl, ⟨SetAt.congr HN1.out.2.set fun q _ => ?_, HN1.out.2.old, HN1.out.2.other⟩⟩⟩
            rw [List.take_succ_eq_append_getElem hlt, ← HJ.out]
            exact (through_old ok.up HP.out q).symm
        | false =>
          rw [hp] at hh
          have HH := mkHid hh
          clear hs hd hl hv hje hh hown hp
          go_wp2_with fail
          refine HH.out.mono ?_
          rintro e w1 ⟨rfl, q, rfl⟩
          have HN1 : Hid _ := Own.step (w2 := wr.drewN q) ok HS.out HL.out HO.out (RowF.drewN HO.out.set q) ((Kept.refl (· = sb) wr).drewN q)
          go_wp2_with fail
          refine (add_any sb y.W j _ _ hW5 hJ HN1.out.2.set).mono ?_
          rintro e w2 ⟨rfl, a1, a2⟩
          have HN2 : Hid _ := Own.step ok HS.out HN1.out.1 HN1.out.2 a1 a2
          clear a1 a2
          go_wp2_with fail
          refine (HIH.out w2 lv1 HN2.out.1.stat HN2.out.1.dyn).mono ?_
          rintro e w3 ⟨b, lv2, rfl, b1, b2⟩
          have HN3 : Hid _ := Own.call ok HS.out HN2.out.1 HN2.out.2 b1 b2
          clear b1 b2
          go_wp2_with fail
          refine (union_any sb b y.W _ _ w3 hW5 HN3.out.2.2.2 HN3.out.2.1.set HN3.out.2.2.1).mono ?_
          rintro e w4 ⟨rfl, c1, c2⟩
          have HN4 : Hid _ := Own.step ok HS.out HN3.out.1 HN3.out.2.1 c1 c2
          clear c1 c2
          go_wp2_with fail
          go_roundg (gk - 1)
          case measure => omega
          case rel =>
            refine ⟨k + 1, lv2, by omega, by go_num, HN4.out.1, .inr ⟨by omega, sb, rfl, ⟨SetAt.congr HN4.out.2.set fun q _ => ?_, HN4.out.2.old, HN4.out.2.other⟩⟩⟩
            rw [List.take_succ_eq_append_getElem hlt, ← HJ.out, through_snoc]
            have hq : (q == j) = (j == q) := BEq.comm
            rw [hq]
            cases (j == q) <;> cases through y.aft y.nn ((y.aft i).take k) q <;> simp
    · have q1 := hl.stat.c3
      have en := eql_nil
      have hf : Hid (∀ q, through y.aft y.nn ((y.aft i).take k) q = R y.aft y.nn i q) := fun q => by
        rw [R_fix ok.up, List.take_of_length_le (by omega)]
      rcases hsb with ⟨rfl, rfl⟩ | ⟨hk0, sb, rfl, hown⟩
      · clear hs hd hl
        go_wp2
        go_ret
        refine ⟨y.N, lv1, rfl, SetAt.congr HL.out.stat.none_ fun q _ => ?_, ok.N.2, .inl rfl, HL.out⟩
        rw [← hf.out q]
        rfl
      · have HO : Hid (Own y w wr lv1 sb (through y.aft y.nn ((y.aft i).take k))) := hown
        have HS : Hid (Stat y w) := hs
        clear hs hd hl hown
        go_wp2
        go_ret
        refine ⟨sb, lv1, rfl, SetAt.congr HO.out.set fun q _ => hf.out q, ?_, .inr HO.out.old, HL.out⟩
        have h1 := ok.L
        have h2 := HS.out.size
        have h3 := HO.out.old
        omega
end Go.Proofs.Ybulkexnyi
