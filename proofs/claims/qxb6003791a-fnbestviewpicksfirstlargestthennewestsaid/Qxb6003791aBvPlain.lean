import Derived.Test.Qxb6003791aBvSmall
namespace Go.Proofs.Qxb6003791a.Bv

section
variable (E : Nat → Bool) (C : Nat → Nat) (I : Nat → Int)

def seenTo : Nat → Bool
  | 0 => false
  | k + 1 => if E k = true then true else seenTo k

def mxTo : Nat → Nat
  | 0 => 0
  | k + 1 => if E k = true then (if seenTo E k = false ∨ mxTo k < C k then C k else mxTo k) else mxTo k

def midTo (M : Nat) : Nat → Int
  | 0 => 0
  | k + 1 => if E k = true ∧ C k = M ∧ midTo M k < I k then I k else midTo M k

variable {E C I}

theorem seen_false {k : Nat} : seenTo E k = false ↔ ∀ i, i < k → E i = false := by
  induction k with
  | zero => simp [seenTo]
  | succ k ih =>
    simp only [seenTo]
    split
    · rename_i h
      simp only [Bool.true_eq_false, false_iff]
      intro hh
      have := hh k (by omega)
      rw [h] at this; cases this
    · rename_i h
      rw [ih]
      refine ⟨fun hh i hi => ?_, fun hh i hi => hh i (by omega)⟩
      by_cases e : i = k
      · subst e; simpa using h
      · exact hh i (by omega)

theorem mx_inv (k : Nat) : seenTo E k = true → (∃ i, i < k ∧ E i = true ∧ C i = mxTo E C k) ∧ ∀ i, i < k → E i = true → C i ≤ mxTo E C k := by
  induction k with
  | zero => intro h; simp [seenTo] at h
  | succ k ih =>
    intro hs
    simp only [mxTo]
    by_cases hE : E k = true
    · rw [if_pos hE]
      by_cases hc : seenTo E k = false ∨ mxTo E C k < C k
      · rw [if_pos hc]
        refine ⟨⟨k, by omega, hE, rfl⟩, fun i hi hEi => ?_⟩
        by_cases e : i = k
        · subst e; omega
        · rcases hc with hc | hc
          · have := seen_false.1 hc i (by omega)
            rw [hEi] at this; cases this
          · by_cases hs' : seenTo E k = true
            · have := (ih hs').2 i (by omega) hEi
              omega
            · have := seen_false.1 (by simpa using hs') i (by omega)
              rw [hEi] at this; cases this
      · rw [if_neg hc]
        have hs' : seenTo E k = true := by
          cases h : seenTo E k
          · exact absurd (Or.inl h) hc
          · rfl
        obtain ⟨⟨i, hi, h1, h2⟩, h3⟩ := ih hs'
        refine ⟨⟨i, by omega, h1, h2⟩, fun j hj hEj => ?_⟩
        by_cases e : j = k
        · subst e; omega
        · exact h3 j (by omega) hEj
    · rw [if_neg hE]
      have hs' : seenTo E k = true := by simpa [seenTo, hE] using hs
      obtain ⟨⟨i, hi, h1, h2⟩, h3⟩ := ih hs'
      refine ⟨⟨i, by omega, h1, h2⟩, fun j hj hEj => ?_⟩
      by_cases e : j = k
      · subst e; exact absurd hEj hE
      · exact h3 j (by omega) hEj

theorem mid_inv {M : Nat} (k : Nat) : (∀ i, i < k → E i = true → C i = M → I i ≤ midTo E C I M k) ∧ (midTo E C I M k = 0 ∨ ∃ i, i < k ∧ E i = true ∧ C i = M ∧ I i = midTo E C I M k) := by
  induction k with
  | zero => exact ⟨fun i hi => absurd hi (Nat.not_lt_zero _), .inl rfl⟩
  | succ k ih =>
    simp only [midTo]
    by_cases h : E k = true ∧ C k = M ∧ midTo E C I M k < I k
    · rw [if_pos h]
      refine ⟨fun i hi hE hC => ?_, .inr ⟨k, by omega, h.1, h.2.1, rfl⟩⟩
      by_cases e : i = k
      · subst e; omega
      · have := ih.1 i (by omega) hE hC
        omega
    · rw [if_neg h]
      refine ⟨fun i hi hE hC => ?_, ?_⟩
      · by_cases e : i = k
        · subst e
          have : ¬ midTo E C I M i < I i := fun h' => h ⟨hE, hC, h'⟩
          omega
        · exact ih.1 i (by omega) hE hC
      · rcases ih.2 with h' | ⟨i, hi, h1, h2, h3⟩
        · exact .inl h'
        · exact .inr ⟨i, by omega, h1, h2, h3⟩

theorem best_none {k : Nat} : bestTo E C I k = none ↔ ∀ i, i < k → E i = false := by
  induction k with
  | zero => simp [bestTo]
  | succ k ih =>
    simp only [bestTo, bstep]
    by_cases hE : E k = true
    · rw [if_pos hE]
      have h2 : ¬ ∀ i, i < k + 1 → E i = false := fun hh => by have := hh k (by omega); rw [hE] at this; cases this
      constructor
      · intro h
        exfalso
        revert h
        split
        · simp
        · split <;> simp
      · intro h; exact absurd h h2
    · rw [if_neg hE, ih]
      refine ⟨fun hh i hi => ?_, fun hh i hi => hh i (by omega)⟩
      by_cases e : i = k
      · subst e; simpa using hE
      · exact hh i (by omega)

theorem best_some {k b : Nat} : bestTo E C I k = some b → b < k ∧ E b = true ∧ ∀ i, i < k → E i = true → C i < C b ∨ (C i = C b ∧ (I i < I b ∨ (I i = I b ∧ b ≤ i))) := by
  induction k generalizing b with
  | zero => intro h; simp [bestTo] at h
  | succ k ih =>
    intro h
    simp only [bestTo, bstep] at h
    by_cases hE : E k = true
    · rw [if_pos hE] at h
      cases ho : bestTo E C I k with
      | none =>
        rw [ho] at h
        simp at h; subst h
        refine ⟨by omega, hE, fun i hi hEi => ?_⟩
        by_cases e : i = k
        · subst e; exact .inr ⟨rfl, .inr ⟨rfl, Nat.le_refl _⟩⟩
        · have := best_none.1 ho i (by omega)
          rw [hEi] at this; cases this
      | some b' =>
        rw [ho] at h
        obtain ⟨h1, h2, h3⟩ := ih ho
        simp only at h
        by_cases hc : C b' < C k ∨ (C k = C b' ∧ I b' < I k)
        · rw [if_pos hc] at h
          simp at h; subst h
          refine ⟨by omega, hE, fun i hi hEi => ?_⟩
          by_cases e : i = k
          · subst e; exact .inr ⟨rfl, .inr ⟨rfl, Nat.le_refl _⟩⟩
          · have := h3 i (by omega) hEi
            omega
        · rw [if_neg hc] at h
          simp at h; subst h
          refine ⟨by omega, h2, fun i hi hEi => ?_⟩
          by_cases e : i = k
          · subst e; omega
          · exact h3 i (by omega) hEi
    · rw [if_neg hE] at h
      obtain ⟨h1, h2, h3⟩ := ih h
      refine ⟨by omega, h2, fun i hi hEi => ?_⟩
      by_cases e : i = k
      · subst e; exact absurd hEi hE
      · exact h3 i (by omega) hEi

theorem seen_iff_best {n : Nat} : seenTo E n = (bestTo E C I n).isSome := by
  cases hb : bestTo E C I n with
  | none => exact seen_false.2 (best_none.1 hb)
  | some b =>
    cases hs : seenTo E n with
    | true => rfl
    | false =>
      have := best_none (I := I) (C := C).2 (seen_false.1 hs)
      rw [hb] at this; cases this

/-- THE PLAIN LAW: what bestView holds is the first of those that have the greatest size and, at that size, the greatest id. -/
theorem plain {n b : Nat} (h0 : ∀ i, i < n → 0 ≤ I i) (hb : bestTo E C I n = some b) :
    b < n ∧ E b = true ∧ C b = mxTo E C n ∧ I b = midTo E C I (mxTo E C n) n ∧
    ∀ k, k < n → E k = true → C k = mxTo E C n → I k = midTo E C I (mxTo E C n) n → (∀ i, i < k → ¬ (E i = true ∧ C i = mxTo E C n ∧ I i = midTo E C I (mxTo E C n) n)) → k = b := by
  obtain ⟨h1, h2, h3⟩ := best_some hb
  have hs : seenTo E n = true := by rw [seen_iff_best (C := C) (I := I), hb]; rfl
  obtain ⟨⟨i, hi, hE, hC⟩, hmax⟩ := mx_inv (C := C) n hs
  have hCb : C b = mxTo E C n := by
    have := h3 i hi hE
    have := hmax b h1 h2
    omega
  obtain ⟨m1, m2⟩ := mid_inv (E := E) (C := C) (I := I) (M := mxTo E C n) n
  have hIb : I b = midTo E C I (mxTo E C n) n := by
    have hle := m1 b h1 h2 hCb
    have := h0 b h1
    rcases m2 with hz | ⟨j, hj, e1, e2, e3⟩
    · omega
    · have := h3 j hj e1
      omega
  refine ⟨h1, h2, hCb, hIb, fun k hk hEk hCk hIk hno => ?_⟩
  have hkb : ¬ b < k := fun hlt => hno b hlt ⟨h2, hCb, hIb⟩
  have := h3 k hk hEk
  omega
end
end Go.Proofs.Qxb6003791a.Bv
