/-
  PLAIN: what is reached by one link or more, in an order whose links go up.
-/
namespace Go.Proofs.Ybulkexnyi

/-- Reached from x by at most f links, one at least. -/
def rch (aft : Nat → List Nat) : Nat → Nat → Nat → Bool
  | 0, _, _ => false
  | f + 1, x, j => (aft x).any (fun y => y == j || rch aft f y j)

/-- The links go up, and stay below n. -/
def Up (aft : Nat → List Nat) (n : Nat) : Prop := ∀ x y, y ∈ aft x → x < y ∧ y < n

/-- Reached from x by one link or more. -/
def R (aft : Nat → List Nat) (n : Nat) (x j : Nat) : Bool := rch aft n x j

/-- Reached through one of l. -/
def through (aft : Nat → List Nat) (n : Nat) (l : List Nat) (j : Nat) : Bool := l.any (fun y => y == j || R aft n y j)

section
variable {aft : Nat → List Nat} {n : Nat}

theorem any_congr {α : Type} {l : List α} {p q : α → Bool} (h : ∀ a, a ∈ l → p a = q a) : l.any p = l.any q := by
  induction l with
  | nil => rfl
  | cons a l ih =>
    simp only [List.any_cons]
    rw [h a (by simp), ih fun b hb => h b (by simp [hb])]

theorem aft_nil (hu : Up aft n) {x : Nat} (hx : n ≤ x) : aft x = [] := by
  cases e : aft x with
  | nil => rfl
  | cons y l =>
    have := hu x y (by rw [e]; simp)
    omega

theorem rch_stable (hu : Up aft n) (j : Nat) : ∀ f g x, n ≤ x + f → n ≤ x + g → rch aft f x j = rch aft g x j
  | 0, 0, _, _, _ => rfl
  | 0, g + 1, x, hf, _ => by simp [rch, aft_nil hu (show n ≤ x by omega)]
  | f + 1, 0, x, _, hg => by simp [rch, aft_nil hu (show n ≤ x by omega)]
  | f + 1, g + 1, x, hf, hg => by
    simp only [rch]
    refine any_congr fun y hy => ?_
    have := hu x y hy
    rw [rch_stable hu j f g y (by omega) (by omega)]

theorem R_fix (hu : Up aft n) (x j : Nat) : R aft n x j = through aft n (aft x) j := by
  unfold R
  rw [rch_stable hu j n (n + 1) x (by omega) (by omega)]
  rfl

theorem R_lt (hu : Up aft n) : ∀ f x j, rch aft f x j = true → x < j ∧ j < n
  | 0, _, _, h => by simp [rch] at h
  | f + 1, x, j, h => by
    simp only [rch, List.any_eq_true, Bool.or_eq_true, beq_iff_eq] at h
    obtain ⟨y, hy, rfl | h⟩ := h
    · exact hu x _ hy
    · have h1 := hu x y hy
      have h2 := R_lt hu f y j h
      omega

theorem R_trans (hu : Up aft n) {y j : Nat} (hy : R aft n y j = true) : ∀ f x, rch aft f x y = true → R aft n x j = true
  | 0, _, h => by simp [rch] at h
  | f + 1, x, h => by
    rw [R_fix hu]
    simp only [rch, through, List.any_eq_true, Bool.or_eq_true, beq_iff_eq] at h ⊢
    obtain ⟨z, hz, rfl | h⟩ := h
    · exact ⟨z, hz, .inr hy⟩
    · exact ⟨z, hz, .inr (R_trans hu hy f z h)⟩

theorem through_nil (j : Nat) : through aft n [] j = false := rfl

theorem through_snoc (l : List Nat) (y j : Nat) : through aft n (l ++ [y]) j = (through aft n l j || (y == j || R aft n y j)) := by
  simp [through, List.any_append]

/-- One that is reached already brings nothing new. -/
theorem through_old (hu : Up aft n) {l : List Nat} {y : Nat} (h : through aft n l y = true) (j : Nat) : through aft n (l ++ [y]) j = through aft n l j := by
  rw [through_snoc]
  cases e : through aft n l j with
  | true => rfl
  | false =>
    simp only [Bool.false_or]
    cases e2 : (y == j || R aft n y j) with
    | false => rfl
    | true =>
      exfalso
      simp only [Bool.or_eq_true, beq_iff_eq] at e2
      rcases e2 with rfl | e2
      · rw [h] at e; cases e
      · have : through aft n l j = true := by
          simp only [through, List.any_eq_true, Bool.or_eq_true, beq_iff_eq] at h ⊢
          obtain ⟨z, hz, rfl | h⟩ := h
          · exact ⟨z, hz, .inr e2⟩
          · exact ⟨z, hz, .inr (R_trans hu e2 n z h)⟩
        rw [this] at e; cases e

/-- A set that holds x's links' ends, is shut under links and holds nothing that is not reached IS what is reached. -/
theorem R_of_shut {S : Nat → Bool} (hs : ∀ k, S k = true → ∀ y ∈ aft k, S y = true) : ∀ f z, (∀ y ∈ aft z, S y = true) → ∀ j, rch aft f z j = true → S j = true
  | 0, _, _, _, h => by simp [rch] at h
  | f + 1, z, hz, j, h => by
    simp only [rch, List.any_eq_true, Bool.or_eq_true, beq_iff_eq] at h
    obtain ⟨y, hy, rfl | h⟩ := h
    · exact hz _ hy
    · exact R_of_shut hs f y (hs y (hz y hy)) j h

theorem R_eq {S : Nat → Bool} {x : Nat} (h0 : ∀ y ∈ aft x, S y = true) (hs : ∀ k, S k = true → ∀ y ∈ aft k, S y = true) (hr : ∀ k, S k = true → R aft n x k = true) (j : Nat) : S j = R aft n x j := by
  cases e : R aft n x j with
  | true => exact R_of_shut hs n x h0 j e
  | false =>
    cases e2 : S j with
    | false => rfl
    | true => rw [hr j e2] at e; cases e

/-- What a link's end reaches is reached. -/
theorem R_link (hu : Up aft n) {x y : Nat} (h : y ∈ aft x) : R aft n x y = true := by
  rw [R_fix hu]
  simp only [through, List.any_eq_true, Bool.or_eq_true, beq_iff_eq]
  exact ⟨y, h, .inl rfl⟩
theorem R_step (hu : Up aft n) {x k y : Nat} (hk : R aft n x k = true) (h : y ∈ aft k) : R aft n x y = true :=
  R_trans hu (R_link hu h) n x hk
end
end Go.Proofs.Ybulkexnyi
