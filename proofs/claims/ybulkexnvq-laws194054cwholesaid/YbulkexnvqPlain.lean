/-
  THE LAW IN PLAIN WORDS: what the map of the held keys says; which keys are last.
-/
import Derived.Test.YbulkexnvqInp
import Derived.Maps.Ext
namespace Go.Proofs.Ybulkexnvq
open Go Go.RowKit Go.Maps

def key (s : ByteArray) : Lit := .string s.data.toList

theorem key_inj {s t : ByteArray} (h : key s = key t) : s = t := by
  simp only [key, Lit.string.injEq] at h
  exact str_inj h

theorem key_lit (s : ByteArray) : WideAt.IsKeyLit (key s) := by unfold key; exact trivial

/-- The map behind k stores. -/
def Dn (K : Nat → ByteArray) (M : Nat → Nat) : Nat → DataW Unit
  | 0 => .map []
  | k + 1 => (Dn K M k).put (key (K k)) (.lit (.int .u8 (M k)))

open Classical in
noncomputable def lastB (K : Nat → ByteArray) (n i : Nat) : Bool := decide (∀ j, i < j → j < n → K j ≠ K i)

theorem lastB_true {K : Nat → ByteArray} {n i : Nat} : lastB K n i = true ↔ ∀ j, i < j → j < n → K j ≠ K i := by simp [lastB]

theorem lastB_false {K : Nat → ByteArray} {n i : Nat} (h : lastB K n i = false) : ∃ j, i < j ∧ j < n ∧ K j = K i ∧ ∀ j', i < j' → j' < j → K j' ≠ K i := by
  have h1 : ∃ j, i < j ∧ j < n ∧ K j = K i := by
    simp [lastB] at h
    exact h
  obtain ⟨j, hj⟩ := h1
  induction j using Nat.strongRecOn with
  | ind j ih =>
    by_cases hx : ∃ j', j' < j ∧ i < j' ∧ K j' = K i
    · obtain ⟨j', h1, h2, h3⟩ := hx
      exact ih j' h1 ⟨h2, by omega, h3⟩
    · exact ⟨j, hj.1, hj.2.1, hj.2.2, fun j' h1 h2 e => hx ⟨j', h2, h1, e⟩⟩

section
variable {K : Nat → ByteArray} {M : Nat → Nat}

theorem isMap_Dn : ∀ k, IsMap (Dn K M k)
  | 0 => by exact ⟨[], rfl⟩
  | k + 1 => by
    obtain ⟨es, h⟩ := isMap_Dn k
    show IsMap ((Dn K M k).put _ _)
    rw [h]
    exact ⟨_, rfl⟩

theorem atKey_last {i : Nat} : ∀ {k : Nat}, i < k → (∀ j, i < j → j < k → K j ≠ K i) → ∀ z, (Dn K M k).atKey (key (K i)) z = .lit (.int .u8 (M i))
  | 0, h, _, _ => by omega
  | k + 1, h, hl, z => by
    by_cases e : i = k
    · subst e
      exact atKey_put_same (isMap_Dn _) (key_lit _) _ _
    · have hne : key (K i) ≠ key (K k) := fun h' => hl k (by omega) (by omega) (key_inj h').symm
      show ((Dn K M k).put _ _).atKey _ _ = _
      rw [atKey_put_other hne]
      exact atKey_last (by omega) (fun j h1 h2 => hl j h1 (by omega)) z

theorem has_Dn (s : ByteArray) : ∀ k, has (Dn K M k) (key s) = true ↔ ∃ i, i < k ∧ K i = s
  | 0 => by simp [Dn, has]
  | k + 1 => by
    show has ((Dn K M k).put _ _) _ = true ↔ _
    by_cases e : K k = s
    · subst e
      rw [has_put_same (isMap_Dn _) (key_lit _)]
      exact ⟨fun _ => ⟨k, by omega, rfl⟩, fun _ => rfl⟩
    · rw [has_put_other (fun h => e (key_inj h).symm), has_Dn s k]
      constructor
      · rintro ⟨i, h1, h2⟩
        exact ⟨i, by omega, h2⟩
      · rintro ⟨i, h1, h2⟩
        refine ⟨i, ?_, h2⟩
        by_cases e' : i = k
        · subst e'; exact absurd h2 e
        · omega

/-- Of every key there is a last place. -/
theorem last_of {n : Nat} {s : ByteArray} (h : ∃ i, i < n ∧ K i = s) : ∃ i, i < n ∧ K i = s ∧ lastB K n i = true := by
  obtain ⟨i, hi⟩ := h
  generalize hd : n - i = d
  induction d using Nat.strongRecOn generalizing i with
  | ind d ih =>
    cases hl : lastB K n i with
    | true => exact ⟨i, hi.1, hi.2, hl⟩
    | false =>
      obtain ⟨j, h1, h2, h3, _⟩ := lastB_false hl
      exact ih (n - j) (by omega) j ⟨h2, h3.trans hi.2⟩ rfl

theorem last_inj {n i j : Nat} (hi : i < n) (hj : j < n) (li : lastB K n i = true) (lj : lastB K n j = true) (e : K i = K j) : i = j := by
  rcases Nat.lt_trichotomy i j with h | h | h
  · exact absurd e.symm (lastB_true.1 li j h hj)
  · exact h
  · exact absurd e (lastB_true.1 lj i h hi)

/-- The keys at the places of which p holds, below k. -/
noncomputable def pick (K : Nat → ByteArray) (n : Nat) (p : Nat → Bool) (k : Nat) : List ByteArray := ((List.range k).filter fun i => lastB K n i && p i).map K

theorem pick_zero (n : Nat) (p : Nat → Bool) : pick K n p 0 = [] := rfl

theorem pick_succ (n : Nat) (p : Nat → Bool) (k : Nat) : pick K n p (k + 1) = if lastB K n k && p k then pick K n p k ++ [K k] else pick K n p k := by
  unfold pick
  rw [List.range_succ, List.filter_append, List.map_append]
  cases h : lastB K n k && p k <;> simp [h]

theorem pick_le (n : Nat) (p : Nat → Bool) (k : Nat) : (pick K n p k).length ≤ k := by
  unfold pick
  rw [List.length_map]
  exact Nat.le_trans (List.length_filter_le _ _) (by simp)

theorem pick_nodup (n : Nat) (p : Nat → Bool) : (pick K n p n).Nodup := by
  unfold pick
  refine List.pairwise_map.2 ?_
  refine List.Pairwise.imp_of_mem ?_ (List.Pairwise.filter _ (List.nodup_range (n := n)))
  intro i j hi hj hne e
  rw [List.mem_filter, List.mem_range, Bool.and_eq_true] at hi hj
  exact hne (last_inj hi.1 hj.1 hi.2.1 hj.2.1 e)

theorem mem_pick {n : Nat} {p : Nat → Bool} {s : ByteArray} : s ∈ pick K n p n ↔ ∃ i, i < n ∧ K i = s ∧ lastB K n i = true ∧ p i = true := by
  unfold pick
  rw [List.mem_map]
  constructor
  · rintro ⟨i, hi, rfl⟩
    rw [List.mem_filter, List.mem_range, Bool.and_eq_true] at hi
    exact ⟨i, hi.1, rfl, hi.2.1, hi.2.2⟩
  · rintro ⟨i, h1, rfl, h2, h3⟩
    exact ⟨i, by rw [List.mem_filter, List.mem_range, Bool.and_eq_true]; exact ⟨h1, h2, h3⟩, rfl⟩

/-- What Keys found is what the law wants, in some order. -/
theorem held_perm {n mode : Nat} {gh : List ByteArray} (h : HeldIn (Dn K M n) (fun _ => false) mode gh) : gh.Perm (pick K n (fun i => M i == mode) n) := by
  refine (List.perm_ext_iff_of_nodup h.1 (pick_nodup n _)).2 fun s => ?_
  rw [h.2 s, mem_pick]
  show (has (Dn K M n) (key s) = true ∧ false = false ∧ (Dn K M n).atKey (key s) .nil = .lit (.int .u8 mode)) ↔ _
  rw [has_Dn]
  constructor
  · rintro ⟨h1, _, h2⟩
    obtain ⟨i, hi, rfl, hl⟩ := last_of h1
    rw [atKey_last hi (lastB_true.1 hl)] at h2
    simp at h2
    exact ⟨i, hi, rfl, hl, by simp; omega⟩
  · rintro ⟨i, hi, rfl, hl, hm⟩
    refine ⟨⟨i, hi, rfl⟩, rfl, ?_⟩
    rw [atKey_last hi (lastB_true.1 hl)]
    simp at hm
    rw [hm]

theorem size_pick {P : Program} {k : TypeId} {R : Value → Option (DataW Unit × List MemPlace)} {w : World} {b m n : Nat} (hown : w.ownsMap P k R b m (Dn K M n)) (Kd : Keyed P k) (hk : P.underlying k = some .string) :
    Maps.size (Dn K M n) = (pick K n (fun _ => true) n).length := by
  obtain ⟨es, hD, hpw, _⟩ := hown.entries Kd
  obtain ⟨es', hD', hko⟩ := hown.keysOf
  obtain rfl : es = es' := by rw [hD] at hD'; simpa using hD'
  have hp : ((pick K n (fun _ => true) n).map fun s => s.data.toList).Perm (strKeys (.map es : DataW Unit)) := by
    refine perm_strKeys hpw (fun p hp => by obtain ⟨v, hv⟩ := hko p hp; obtain ⟨x, _, hx, _⟩ := Maps.keyOf_str hk hv; exact ⟨x, hx⟩) ?_ fun x => ?_
    · exact List.pairwise_map.2 ((pick_nodup n _).imp fun hne e => hne (str_inj e))
    · rw [← hD]
      have hx : (Lit.string x) = key ⟨x.toArray⟩ := by simp [key]
      rw [hx, has_Dn, List.mem_map]
      constructor
      · rintro ⟨s, hs, rfl⟩
        obtain ⟨i, h1, h2, _⟩ := mem_pick.1 hs
        exact ⟨i, h1, by simp [h2]⟩
      · intro h
        obtain ⟨i, h1, h2, h3⟩ := last_of h
        exact ⟨K i, mem_pick.2 ⟨i, h1, rfl, h3, rfl⟩, by rw [h2]⟩
  have := hp.length_eq
  rw [List.length_map] at this
  rw [this, hD]
  show es.length = (es.map fun p => strOf p.1).length
  rw [List.length_map]
end

theorem beq_ne {s t : ByteArray} (h : s ≠ t) : (s.toList == t.toList) = false := by
  rw [ByteArray.toList_eq, ByteArray.toList_eq]
  simp only [beq_eq_false_iff_ne]
  exact fun e => h (str_inj e)

theorem beq_eq {s t : ByteArray} (h : s = t) : (s.toList == t.toList) = true := by subst h; simp

theorem ownsMap_block {P : Program} {k : TypeId} {R : Value → Option (DataW Unit × List MemPlace)} {w w' : World} {b n : Nat} {D : DataW Unit} (h : w.ownsMap P k R b n D) (e : w'.heap[b]? = w.heap[b]?) : w'.ownsMap P k R b n D := by
  obtain ⟨es, clock, hb, rest⟩ := h
  exact ⟨es, clock, e.trans hb, rest⟩

/-- The look-up of a key at its last place. -/
theorem look_last {K : Nat → ByteArray} {M : Nat → Nat} {n nn mb i : Nat} {w : World} (hown : w.ownsMap Yba.prog 9 (plainElem Yba.prog 27) mb nn (Dn K M n)) (hi : i < n) (hl : ∀ j, i < j → j < n → K j ≠ K i) (hs : (K i).size ≤ maxLen) :
    (Instr.lookup 28 (.map (some mb)) (.string (K i)) true).run Yba.prog w = .ok (.tuple #[.int .u8 (M i), .bool true]) w := by
  have hkey : keyOf Yba.prog 9 (.string (K i)) = some (key (K i)) := by simp [keyOf, Yba.underlying9, mapKey, hs, key]
  obtain ⟨v, ps, h1, h2⟩ := hown.look_ok (string_keyed Yba.underlying9) Yba.underlying28 (Yba.zeroValue27 w) (plainElem_int Yba.underlying27 (by decide)) hkey
  rw [atKey_last hi hl] at h2
  obtain ⟨c, rfl, hc, _⟩ := plainElem_int_inv Yba.underlying27 h2
  simp only [Prod.mk.injEq, DataW.lit.injEq, Lit.int.injEq, true_and] at hc
  rw [h1, hc.1, (has_Dn (K i) n).2 ⟨i, hi, rfl⟩]
end Go.Proofs.Ybulkexnvq
