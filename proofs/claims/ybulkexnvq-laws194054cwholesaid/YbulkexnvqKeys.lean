/-
  (*Owner).Keys: the walk.
-/
import Derived.Test.YbulkexnvqGot
import Derived.Conc.MuLone
import Derived.Defers
namespace Go.Proofs.Ybulkexnvq
open Go Go.RowKit Go.Maps Go.MuLone

/-- The cells of a held set. -/
def hsF (d : SetsD) (k : Nat) : Nat → Value
  | 0 => .iface 36 (.pointer (some ⟨d.st k, 0, none⟩))
  | 1 => .int .i64 (d.lo k)
  | _ => .int .i64 (d.hi k)

theorem method_key (w : World) (a : Addr) : (method 236 36 (.pointer (some a)) "Key").run Yba.prog w = .ok (64, .pointer (some a)) w := by kernel_rfl

theorem ranges_two {P : Program} {k : TypeId} {R : Value → Option (DataW Unit × List MemPlace)} {w : World} {b r n : Nat} {D : DataW Unit} {left : Lit → Bool} {cnt : Nat} (h : w.ranges P k R b r n D left cnt) (o1 o2 : Obj) :
    ((w.alloc o1).alloc o2).drew.ranges P k R b r n D left cnt := (h.alloc o1).alloc o2

def KeysPost (d : SetsD) (D : DataW Unit) (mode tb : Nat) (w : World) (e : Ending) (w' : World) : Prop :=
  ∃ v gh gv, e = .returned v ∧ HeldIn D (fun _ => false) mode gh ∧ gh.length ≤ 4096 ∧ Got (· = tb) w w' v (gh ++ (if mode = 2 then upTo d d.m else [])) gv

set_option maxRecDepth 100000 in
set_option maxHeartbeats 3200000 in
theorem keys_any (d : SetsD) (ob tb mb hb B : Nat) (hso : Option Addr) (hcap n mode : Nat) (D : DataW Unit) (w : World)
    (hso0 : 0 < d.m → hso = some ⟨hb, 0, none⟩) (o0 : w.cell? ⟨ob, 0, none⟩ = some (.pointer (some ⟨tb, 0, none⟩))) (o2 : w.cell? ⟨ob, 2, none⟩ = some (.map (some mb))) (o5 : w.cell? ⟨ob, 5, none⟩ = some (.slice hso d.m hcap))
    (t0 : w.cell? ⟨tb, 0, none⟩ = some (.int .i32 0)) (tf : w.frozen? ⟨tb, 0, none⟩ = false) (hm : w.ownsMap Yba.prog 9 (plainElem Yba.prog 27) mb n D) (hn : n ≤ 4096) (hm4 : d.m ≤ 4096)
    (hh : HsAt d hb w) (hst : StandsAt d B d.m w) (hB : B ≤ tb) (hob : ob ≠ tb) (hmb : mb ≠ tb) (hhb : hb ≠ tb) (htot : tot d.kn d.m ≤ 65536) (hhi : ∀ x, d.hi x ≤ d.kn x) (hS : ∀ x i, (d.S x i).size ≤ 140737488355328) :
    Calls Yba.prog 5 #[.pointer (some ⟨ob, 0, none⟩), .int .u8 mode] w (KeysPost d D mode tb w) := by
  have HH := mkHid hh
  have HST := mkHid hst
  have HM := mkHid hm
  have HT := mkHid t0
  have hol := World.block_lt_of_cell? _ _ o0
  have htl := World.block_lt_of_cell? _ _ t0
  have hml := hm.lt
  simp only at hol htl
  have k0 : Kept (· = tb) w (w.setCell ⟨tb, 0, none⟩ (.int .i32 1)) := (Kept.refl (· = tb) w).setCell (p := ⟨tb, 0, none⟩) (.inl rfl) _
  have c2 := k0.cell o2 hob
  have c5 := k0.cell o5 hob
  have HK0 := mkHid k0
  have hm1 := hm.setCell (a := ⟨tb, 0, none⟩) hmb (.int .i32 1)
  clear hh hst hm k0
  go_enter_defers Yba.func5, Yba.ntmps5
  go_wp2_with (first
    | (go_at_call 8; refine (lock_free Yba.muLib ⟨tb, 0, none⟩ _ t0 tf).mono ?_; rintro e w' ⟨rfl, rfl⟩)
    | (at_range; refine wpList_range_own _ rfl _ 28 rfl 9 27 (string_keyed Yba.underlying9) Yba.underlying28 _ mb n _ rfl hm1 ?_; intro w1 hrg1 hg1 hs1)
    | go_in)
  go_frame
  have hw1 : w1.heap.size = w.heap.size + 1 := by rw [hs1]; simp [World.setCell]
  have hr0 : (w.setCell ⟨tb, 0, none⟩ (.int .i32 1)).heap.size = w.heap.size := by simp [World.setCell]
  have kw1 : Kept (· = tb) w w1 := HK0.out.grown hg1 (fun k hk => by cases hk)
  have HK1 := mkHid kw1
  have HW1 := mkHid hw1
  rw [hr0] at hrg1
  try rw [hr0]
  have HTB := mkHid (hg1.block tb (by rw [hr0]; exact htl) (by simp))
  clear c2 c5 hm1 hg1 hs1 kw1
  go_loopw [5] (fun v wr => ∃ (left : Lit → Bool) (cnt : Nat) (gl : List ByteArray) (gv : List Value), wr.ranges Yba.prog 9 (plainElem Yba.prog 27) mb w.heap.size n D left cnt ∧ gl.length + cnt ≤ Maps.size D ∧
      Got (fun b => b = w.heap.size) w1 wr v gl gv ∧ HeldIn D left mode gl)
    (fun _ wr => wr.rangeLeft mb w.heap.size)
  case atStart => exact ⟨_, _, [], [], hrg1, by simp, Got.start _ _ _ (Kept.refl _ _), HeldIn.start D mode⟩
  case round =>
    obtain ⟨left, cnt, gl, gv, hrg, hcs, hgot, hC⟩ := hrel
    have HG := mkHid hgot
    have HC' := mkHid hC
    clear hgot hC hw1 hr0
    go_wp2_with (first
      | (at_next; refine wpList_next_ranges _ rfl _ rfl 9 (string_keyed Yba.underlying9) (plainElem Yba.prog 27) (fun s : ByteArray => Value.string s) (Value.int .u8) (fun key kl hk => by obtain ⟨x, hx, _⟩ := Maps.keyOf_str Yba.underlying9 hk; exact ⟨_, hx⟩) (fun v y hv => by obtain ⟨c, rfl, _⟩ := plainElem_int_inv Yba.underlying27 hv; exact ⟨c, rfl⟩) mb w.heap.size n _ _ _ rfl hrg ?_ ?_)
      | go_in)
    · intro hc0 hl0
      have hfin : HeldIn D (fun _ => false) mode gl := by
        obtain rfl : left = fun _ => false := funext hl0
        exact HC'.out
      have hgl : gl.length ≤ 4096 := by have := hrg.owns.size_le; omega
      have tbc : ∀ (wx : World) (X : Nat → Prop), Kept X w1 wx → ¬ X tb → wx.cell? ⟨tb, 0, none⟩ = some (.int .i32 1) ∧ wx.frozen? ⟨tb, 0, none⟩ = false := fun wx X k hx => by
        have e := (k.block tb (by have := HW1.out; omega) hx).trans HTB.out
        refine ⟨(World.cell?_of_block (a := ⟨tb, 0, none⟩) e).trans (World.cell?_setCell_same w ⟨tb, 0, none⟩ (.int .i32 1) t0), ?_⟩
        have : wx.frozen? ⟨tb, 0, none⟩ = (w.setCell ⟨tb, 0, none⟩ (.int .i32 1)).frozen? ⟨tb, 0, none⟩ := by simp only [World.frozen?, e]
        rw [this]
        simp [tf]
      have HTC := mkHid tbc
      have HFI := mkHid hfin
      clear tbc hfin hl0 hrg HC' HTB hrg1
      have d2 := HG.out.kept.cell (HK1.out.cell o2 hob) (show ¬ ob = w.heap.size by omega)
      have d5 := HG.out.kept.cell (HK1.out.cell o5 hob) (show ¬ ob = w.heap.size by omega)
      by_cases hmo : mode = 2
      · subst hmo
        go_wp2
        clear d2 d5
        go_loopg [49, 5] d.m (fun g ix v2 wx => ∃ (k : Nat) (gv2 : List Value), k + g = d.m ∧ ix = .int .i64 k ∧ Got (fun b => b = w.heap.size) w1 wx v2 (gl ++ upTo d k) gv2)
        case atStart => exact ⟨0, gv, by omega, rfl, by simpa [upTo] using HG.out⟩
        case round =>
          obtain ⟨k, gv2, hk, rfl, hg2⟩ := hrel
          have HG2 := mkHid hg2
          clear hg2
          by_cases hlt : k < d.m
          · obtain rfl := hso0 (by omega)
            have hbl : hb < w.heap.size := World.block_lt_of_cell? _ _ (HH.out k hlt).1
            have HH2 := (HH.out.kept HK1.out hhb).kept HG2.out.kept (show ¬ hb = w.heap.size by omega)
            obtain ⟨s1, s2, s3⟩ := HH2 k hlt
            clear HH2
            have HST2 := mkHid ((HST.out.kept HK1.out (fun b hb e => by omega)).kept HG2.out.kept (fun b hb e => by omega))
            have HX := mkHid (HG2.out.one (.cells #[.iface 36 (.pointer (some ⟨d.st k, 0, none⟩)), .int .i64 (d.lo k), .int .i64 (d.hi k)] 42))
            have HR := mkHid (RowF.alloc_new wr 42 #[.iface 36 (.pointer (some ⟨d.st k, 0, none⟩)), .int .i64 (d.lo k), .int .i64 (d.hi k)] 3 (hsF d k) (by simp [List.range, List.range.loop, hsF]))
            have hPv : ∀ g, u5.ownBlock = some g → g < wr.heap.size := fun g hg => (HG2.out.blk_lt hg).2
            go_wp2
            clear s1 s2 s3
            obtain ⟨G2, hG2⟩ : ∃ G2, G2 = gk := ⟨_, rfl⟩
            subst hG2
            have HPv := mkHid hPv
            clear hPv
            have HXS := mkHid (HST2.out.kept ((Kept.refl (fun _ => False) wr).alloc (.cells #[.iface 36 (.pointer (some ⟨d.st k, 0, none⟩)), .int .i64 (d.lo k), .int .i64 (d.hi k)] 42)) (fun _ _ h => h))
            clear HST2 HG2
            generalize hP : wr.heap.size = P at *
            have HP := mkHid hP
            clear hP
            go_loopg [10, 5] (d.hi k - d.lo k) (fun g ix v3 wy => ∃ (j : Nat) (gv3 : List Value), d.lo k ≤ j ∧ (j - d.lo k) + g = d.hi k - d.lo k ∧ ix = .int .i64 j ∧ Got (fun b => b = w.heap.size) w1 wy v3 (gl ++ (upTo d k ++ part d k (j - d.lo k))) gv3 ∧ RowF wy P 42 3 (hsF d k) ∧ v3.ownBlock ≠ some P ∧ StandsAt d B d.m wy)
            case atStart => exact ⟨d.lo k, gv2, Nat.le_refl _, by omega, rfl, by simpa [part] using HX.out, HR.out, fun e => by have := HPv.out _ e; omega, HXS.out⟩
            case round =>
              clear HX HXS HR HPv
              obtain ⟨j, gv3, hj0, hj1, rfl, hg3, hr3, hv3, hs3⟩ := hrel
              have HG3 := mkHid hg3
              have HR3 := mkHid hr3
              have HS3 := mkHid hs3
              have z0 : wr.cell? ⟨P, 0, none⟩ = _ := hr3.cell (i := 0) (by decide)
              have z1 : wr.cell? ⟨P, 1, none⟩ = _ := hr3.cell (i := 1) (by decide)
              have z2 : wr.cell? ⟨P, 2, none⟩ = _ := hr3.cell (i := 2) (by decide)
              simp only [hsF] at z0 z1 z2
              clear hg3 hr3 hs3 z1
              by_cases hlt3 : j < d.hi k
              · have hjk : j < d.kn k := Nat.lt_of_lt_of_le hlt3 (hhi k)
                have y0 := (HS3.out.st k hlt).2
                have y1 := (HS3.out.kb k hlt j hjk).2
                have HB3 := mkHid (HS3.out.bb k hlt j hjk).2
                obtain ⟨i0, hi0, hz0, hz1, hz2⟩ := info_parts' Yba.info35
                have hmeth := method_key
                have hlen : (gl ++ (upTo d k ++ part d k (j - d.lo k))).length ≤ 4096 + 65536 := by
                  have h1 := upTo_len d hhi k
                  have h2 := tot_le d.kn (show k + 1 ≤ d.m by omega)
                  simp only [tot] at h2
                  simp only [List.length_append, part, List.length_map, List.length_range]
                  omega
                have HLN := mkHid hlen
                have hjs : j < 65536 := by
                  have h2 := tot_le d.kn (show k + 1 ≤ d.m by omega)
                  simp only [tot] at h2
                  omega
                clear hlen
                go_wp2_with (first
                  | (go_at_call 64; refine (key_any _ _ _ _ _ _ _ hjk y0 y1).mono ?_; rintro e w' ⟨rfl, rfl⟩)
                  | (go_at_call 10; refine (clone_any _ _ _ _ HB3.out (hS k j)).mono ?_; rintro e w5 ⟨g5, c5, rfl, q1, q2, q3, q4⟩; have HG5 := mkHid ((HG3.out.step q4 (fun _ h => h.elim)).one (.cells #[.slice (some ⟨g5, 0, none⟩) (d.S k j).size c5] 35)); have HQ3 := mkHid q3; have HQ4 := mkHid q4; clear q3 q4)
                  | (at_builtin; refine wpList_append_lies _ rfl (.tmp 61) (.tmp 67) 34 rfl w1.heap.size 35 i0 (.slice none 0 0) 1 24 Yba.underlying34 hi0 hz0 hz1 hz2 rfl (by decide) u5 _ gv3 rfl HG5.out.own ⟨w5.heap.size, 0, none⟩ 1 1 [.slice (some ⟨g5, 0, none⟩) (d.S k j).size c5] rfl rfl (news_one _ _ _ _ rfl) (by intro u hu; simp at hu; subst hu; rfl) (by decide) (by have := HLN.out; unfold maxLen; omega) (by have := HLN.out; omega) HG5.out.kept.size (w5.heap.size + 1) (by simp) ?_; intro g6 cap6 w6 ho6 hg6 hat6 hlt6; go_frame)
                  | go_in)
                have hb5 : u5.ownBlock ≠ some g5 := fun e => by have := (HG3.out.blk_lt e).2; omega
                have HG6 := HG5.out.more (by have := HG3.out.kept.size; omega) (by simp; omega) hb5 (HQ3.out.of_block (Below.heap_alloc _ _ _ q2)) ho6 hg6 (by simpa using hat6)
                have hPl := HR3.out.lt
                have k6 : Kept (fun b => u5.ownBlock = some b) _ w6 := ((HQ4.out.alloc (.cells #[.slice (some ⟨g5, 0, none⟩) (d.S k j).size c5] 35)).weaken (fun _ _ h => h.elim)).grown hg6 (fun b hb => .inl hb)
                have HR6 := HR3.out.kept k6 hv3
                have hB1 : B ≤ w1.heap.size := by have := HW1.out; omega
                have HS6 := HS3.out.kept k6 (fun b hb e => by have := (HG3.out.blk_lt e).1; omega)
                have hv6 : g6 ≠ P := fun e => by
                  rcases hat6 with h | h
                  · exact hv3 (e ▸ h)
                  · have := HQ4.out.size; omega
                go_wp2
                go_roundg (gk - 1)
                case measure => omega
                case rel =>
                  have ej : j + 1 - d.lo k = (j - d.lo k) + 1 := by omega
                  refine ⟨j + 1, gv3 ++ [.slice (some ⟨g5, 0, none⟩) (d.S k j).size c5], by omega, by omega, by go_num, ?_, HR6, by simpa [Value.ownBlock] using hv6, HS6⟩
                  rw [ej, part_succ, Nat.add_sub_cancel' hj0]
                  simpa using HG6
              · go_wp2
                go_roundg (G2 - 1)
                case measure => omega
                case rel =>
                  have ej : j - d.lo k = d.hi k - d.lo k := by omega
                  refine ⟨k + 1, gv3, by omega, by go_num, ?_⟩
                  have := HG3.out
                  rw [ej] at this
                  simpa [upTo] using this
          · obtain rfl : k = d.m := by omega
            go_wp2
            refine leaves_cons (f := 9) (args := #[.pointer (some ⟨tb, 0, none⟩)]) (by simp) (by simp [go_sem]) ?_
            refine (unlock_deferred Yba.muLib ⟨tb, 0, none⟩ .returning _ (HTC.out _ _ HG2.out.kept (by show ¬ tb = w.heap.size; omega)).1 (HTC.out _ _ HG2.out.kept (by show ¬ tb = w.heap.size; omega)).2).mono ?_
            rintro e u' w'' ⟨rfl, rfl, rfl⟩
            exact ⟨_, results_tmp rfl _ _ _, _, gl, gv2, rfl, HFI.out, hgl, by rw [if_pos rfl]; exact HG2.out.door HK1.out (by have := HW1.out; omega) _⟩
      · have hmo' : ¬ (mode : Int) = 2 := by omega
        go_wp2
        refine leaves_cons (f := 9) (args := #[.pointer (some ⟨tb, 0, none⟩)]) (by simp) (by simp [go_sem]) ?_
        refine (unlock_deferred Yba.muLib ⟨tb, 0, none⟩ .returning _ (HTC.out _ _ HG.out.kept (by show ¬ tb = w.heap.size; omega)).1 (HTC.out _ _ HG.out.kept (by show ¬ tb = w.heap.size; omega)).2).mono ?_
        rintro e u' w'' ⟨rfl, rfl, rfl⟩
        exact ⟨_, results_tmp rfl _ _ _, _, gl, gv, rfl, HFI.out, hgl, by rw [if_neg hmo, List.append_nil]; exact HG.out.door HK1.out (by have := HW1.out; omega) _⟩
    · intro x c kl yd yp w2 cnt2 hkey hlk hv hat hrg2 hlt hg2 hs2 hen
      obtain ⟨x', ex, rfl, _⟩ := Maps.keyOf_str Yba.underlying9 hkey
      obtain rfl : x' = x.data.toList := by simp [encStr] at ex; rw [ex]
      obtain ⟨c', hc', hy, _⟩ := plainElem_int_inv Yba.underlying27 hv
      simp only [Value.int.injEq, true_and] at hc'
      subst hc'
      simp only [Prod.mk.injEq] at hy
      obtain ⟨rfl, rfl⟩ := hy
      have k2 : Kept (fun b => some w.heap.size = some b) wr w2 := Kept.of_grown hg2
      have HG2 := mkHid (HG.out.step k2 (fun b hb => by simp only [Option.some.injEq] at hb; subst hb; exact ⟨rfl, by have := HW1.out; omega⟩))
      clear hs2 ex k2
      by_cases hc : c = mode
      · subst hc
        have cv := conv_str
        obtain ⟨i0, hi0, hz0, hz1, hz2⟩ := info_parts' Yba.info35
        have hD := hrg.owns.size_le
        have HG3 := mkHid (HG2.out.two (.cells (bytesRow x (grownCap w2 x.size 0 5)) 5 ((bytesRow x (grownCap w2 x.size 0 5)).size, (bytesRow x (grownCap w2 x.size 0 5)).size + 1)) (.cells #[.slice (some ⟨w2.heap.size, 0, none⟩) x.size (grownCap w2 x.size 0 5)] 35))
        have hsz2 : w1.heap.size ≤ w2.heap.size := HG2.out.kept.size
        have HB := mkHid ((BytesAt.new w2 x (grownCap w2 x.size 0 5)).of_block (w' := ((w2.alloc (.cells (bytesRow x (grownCap w2 x.size 0 5)) 5 ((bytesRow x (grownCap w2 x.size 0 5)).size, (bytesRow x (grownCap w2 x.size 0 5)).size + 1))).alloc (.cells #[.slice (some ⟨w2.heap.size, 0, none⟩) x.size (grownCap w2 x.size 0 5)] 35)).drew) (Below.heap_alloc _ _ _ (by simp)))
        go_wp2_with (first
          | (at_builtin; refine wpList_append_lies _ rfl (.tmp 37) (.tmp 40) 34 rfl w1.heap.size 35 i0 (.slice none 0 0) 1 24 Yba.underlying34 hi0 hz0 hz1 hz2 rfl (by decide) u5 gl.length gv rfl HG3.out.own ⟨w2.heap.size + 1, 0, none⟩ 1 1 [.slice (some ⟨w2.heap.size, 0, none⟩) x.size (grownCap w2 x.size 0 5)] rfl rfl (news_one _ _ _ _ (by simp)) (by intro u hu; simp at hu; subst hu; rfl) (by decide) (by unfold maxLen; omega) (by omega) HG3.out.kept.size (w2.heap.size + 1 + 1) (by simp) ?_; intro g1 cap1 w3 ho3 hg3 hat3 hlt3; go_frame)
          | go_in)
        have hb3 : u5.ownBlock ≠ some w2.heap.size := fun e => by have := (HG2.out.blk_lt e).2; omega
        have HG4 := HG3.out.more hsz2 (by show w2.heap.size < ((w2.alloc _).alloc _).heap.size; simp; omega) hb3 HB.out ho3 hg3 (by simpa using hat3)
        have hrg3 := (ranges_two hrg2 _ _).kept hg3 (fun e => by have := (HG2.out.blk_lt e.symm).1; have := HW1.out; omega) (fun e => by have := (HG2.out.blk_lt e.symm).1; have := HW1.out; omega)
        go_roundw
        case rel => exact ⟨_, cnt2, _, _, hrg3, by simp; omega, HG4, HC'.out.take hlk hat⟩
        case measure => rw [hrg3.left_eq, hrg.left_eq]; exact hlt
      · go_wp2
        go_roundw
        case rel => exact ⟨_, cnt2, gl, gv, hrg2, by omega, HG2.out, HC'.out.pass hat hc⟩
        case measure => rw [hrg2.left_eq, hrg.left_eq]; exact hlt
end Go.Proofs.Ybulkexnvq
