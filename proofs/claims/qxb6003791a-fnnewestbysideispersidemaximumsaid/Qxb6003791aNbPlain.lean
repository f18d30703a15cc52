import Derived.Test.Qxb6003791aRows
set_option linter.unusedVariables false
namespace Go.Proofs.Qxb6003791a.Nb

section
variable (x s : Nat → Int) (self : Int)

/-- Member i has a copy and stands on side t. -/
def F (t : Int) (i : Nat) : Prop := x i ≠ 0 ∧ s i = t

/-- What newestBySide's map holds at side t after the first k members. -/
def nb (t : Int) : Nat → Option Nat
  | 0 => none
  | k + 1 => if x k ≠ 0 ∧ s k = t then
      (match nb t k with
        | none => some k
        | some c => if x c < x k ∨ (x k = x c ∧ (k : Int) = self) then some k else some c)
    else nb t k

/-- b is the first of the greatest among those of side t below k. -/
structure FM (t : Int) (k b : Nat) : Prop where
  lt : b < k
  mem : F x s t b
  max : ∀ i, i < k → F x s t i → x i ≤ x b
  first : ∀ i, i < b → F x s t i → x i < x b

/-- The law's own search for the greatest, from o on, j members looked at. -/
def fmJ (t : Int) (o : Nat) : Nat → Nat
  | 0 => o
  | j + 1 => if x (o + 1 + j) ≠ 0 ∧ s (o + 1 + j) = t ∧ x (fmJ t o j) < x (o + 1 + j) then o + 1 + j else fmJ t o j

/-- Self stands on side t among the first m, with a copy as new as b's. -/
def Tie (m : Nat) (t : Int) (b : Nat) : Prop := 0 ≤ self ∧ self < m ∧ s self.toNat = t ∧ x self.toNat = x b

/-- The sides in the order of their first copies. -/
def ts : Nat → List Int
  | 0 => []
  | k + 1 => if x k ≠ 0 ∧ nb x s self (s k) k = none then ts k ++ [s k] else ts k
end

variable {x s : Nat → Int} {self : Int}

theorem nb_none {t : Int} {k : Nat} : nb x s self t k = none ↔ ∀ i, i < k → ¬ F x s t i := by
  induction k with
  | zero => simp [nb]
  | succ k ih =>
    simp only [nb]
    by_cases h : x k ≠ 0 ∧ s k = t
    · rw [if_pos h]
      constructor
      · intro hh
        exfalso
        revert hh
        cases nb x s self t k with
        | none => simp
        | some c => simp only; split <;> simp
      · intro hh; exact absurd h (hh k (by omega))
    · rw [if_neg h, ih]
      refine ⟨fun hh i hi => ?_, fun hh i hi => hh i (by omega)⟩
      by_cases e : i = k
      · subst e; exact h
      · exact hh i (by omega)

/-- What the map holds: the first of the greatest, or self where self ties with it. -/
theorem nb_some {t : Int} {k c : Nat} (h : nb x s self t k = some c) : c < k ∧ F x s t c ∧ ∃ b, FM x s t k b ∧ x c = x b ∧ ((c : Int) = self ∨ (c = b ∧ ¬ Tie x s self k t b)) := by
  induction k generalizing c with
  | zero => simp [nb] at h
  | succ k ih =>
    simp only [nb] at h
    by_cases hk : x k ≠ 0 ∧ s k = t
    · rw [if_pos hk] at h
      cases ho : nb x s self t k with
      | none =>
        rw [ho] at h
        simp at h; subst h
        have hno := nb_none.1 ho
        refine ⟨by omega, hk, k, ⟨by omega, hk, fun i hi hF => ?_, fun i hi hF => absurd hF (hno i hi)⟩, rfl, ?_⟩
        · by_cases e : i = k
          · subst e; exact Int.le_refl _
          · exact absurd hF (hno i (by omega))
        · by_cases e : (k : Int) = self
          · exact .inl e
          · refine .inr ⟨rfl, fun ht => ?_⟩
            obtain ⟨h1, h2, h3, h4⟩ := ht
            have hlt : self.toNat < k := by omega
            exact hno _ hlt ⟨by rw [h4]; exact hk.1, h3⟩
      | some c' =>
        rw [ho] at h
        obtain ⟨hc', hFc', b, hb, hxb, hor⟩ := ih ho
        simp only at h
        by_cases hgt : x c' < x k
        · rw [if_pos (.inl hgt)] at h
          simp at h; subst h
          refine ⟨by omega, hk, k, ⟨by omega, hk, fun i hi hF => ?_, fun i hi hF => ?_⟩, rfl, ?_⟩
          · by_cases e : i = k
            · subst e; exact Int.le_refl _
            · have := hb.max i (by omega) hF; omega
          · have := hb.max i (by omega) hF; omega
          · by_cases e : (k : Int) = self
            · exact .inl e
            · refine .inr ⟨rfl, fun ht => ?_⟩
              obtain ⟨h1, h2, h3, h4⟩ := ht
              have := hb.max self.toNat (by omega) ⟨by rw [h4]; exact hk.1, h3⟩
              omega
        · by_cases heq : x k = x c' ∧ (k : Int) = self
          · rw [if_pos (.inr heq)] at h
            simp at h; subst h
            refine ⟨by omega, hk, b, ⟨by have := hb.lt; omega, hb.mem, fun i hi hF => ?_, hb.first⟩, by omega, .inl heq.2⟩
            by_cases e : i = k
            · subst e; omega
            · exact hb.max i (by omega) hF
          · rw [if_neg (by omega)] at h
            simp at h; subst h
            refine ⟨by omega, hFc', b, ⟨by have := hb.lt; omega, hb.mem, fun i hi hF => ?_, hb.first⟩, hxb, ?_⟩
            · by_cases e : i = k
              · subst e; omega
              · exact hb.max i (by omega) hF
            · rcases hor with e | ⟨e1, e2⟩
              · exact .inl e
              · refine .inr ⟨e1, fun ht => ?_⟩
                obtain ⟨h1, h2, h3, h4⟩ := ht
                by_cases e : self = k
                · subst e
                  simp at h4
                  omega
                · exact e2 ⟨h1, by omega, h3, h4⟩
    · rw [if_neg hk] at h
      obtain ⟨hc', hFc', b, hb, hxb, hor⟩ := ih h
      refine ⟨by omega, hFc', b, ⟨by have := hb.lt; omega, hb.mem, fun i hi hF => ?_, hb.first⟩, hxb, ?_⟩
      · by_cases e : i = k
        · subst e; exact absurd hF hk
        · exact hb.max i (by omega) hF
      · rcases hor with e | ⟨e1, e2⟩
        · exact .inl e
        · refine .inr ⟨e1, fun ht => ?_⟩
          obtain ⟨h1, h2, h3, h4⟩ := ht
          by_cases e : self = k
          · subst e
            simp at h3 h4
            exact hk ⟨by rw [h4]; exact hb.mem.1, h3⟩
          · exact e2 ⟨h1, by omega, h3, h4⟩

theorem FM.eq {t : Int} {k b b' : Nat} (h : FM x s t k b) (h' : FM x s t k b') : b = b' := by
  rcases Nat.lt_trichotomy b b' with e | e | e
  · have := h'.first b e h.mem; have := h.max b' h'.lt h'.mem; omega
  · exact e
  · have := h.first b' e h'.mem; have := h'.max b h.lt h.mem; omega

theorem fmJ_inv {t : Int} {o : Nat} (hno : ∀ i, i < o → ¬ F x s t i) (hF : F x s t o) (j : Nat) : FM x s t (o + 1 + j) (fmJ x s t o j) := by
  induction j with
  | zero =>
    refine ⟨by simp [fmJ], hF, fun i hi hFi => ?_, fun i hi hFi => absurd hFi (hno i hi)⟩
    by_cases e : i = o
    · subst e; exact Int.le_refl _
    · exact absurd hFi (hno i (by omega))
  | succ j ih =>
    simp only [fmJ]
    by_cases h : x (o + 1 + j) ≠ 0 ∧ s (o + 1 + j) = t ∧ x (fmJ x s t o j) < x (o + 1 + j)
    · rw [if_pos h]
      refine ⟨by omega, ⟨h.1, h.2.1⟩, fun i hi hFi => ?_, fun i hi hFi => ?_⟩
      · by_cases e : i = o + 1 + j
        · subst e; exact Int.le_refl _
        · have := ih.max i (by omega) hFi; omega
      · have := ih.max i (by omega) hFi; omega
    · rw [if_neg h]
      refine ⟨by have := ih.lt; omega, ih.mem, fun i hi hFi => ?_, ih.first⟩
      by_cases e : i = o + 1 + j
      · subst e
        have : ¬ x (fmJ x s t o j) < x (o + 1 + j) := fun hh => h ⟨hFi.1, hFi.2, hh⟩
        omega
      · exact ih.max i (by omega) hFi

/-- THE PLAIN LAW at one side: what the map holds is what the law's search comes to. -/
theorem pick_tie {t : Int} {m b c : Nat} (h : nb x s self t m = some c) (hb : FM x s t m b) (ht : Tie x s self m t b) : (c : Int) = self := by
  obtain ⟨_, _, b', hb', _, hor⟩ := nb_some h
  have := FM.eq hb hb'
  subst this
  rcases hor with e | ⟨_, e⟩
  · exact e
  · exact absurd ht e

theorem pick_not {t : Int} {m b c : Nat} (h : nb x s self t m = some c) (hb : FM x s t m b) (ht : ¬ Tie x s self m t b) : c = b := by
  obtain ⟨hc, hF, b', hb', hx, hor⟩ := nb_some h
  have := FM.eq hb hb'
  subst this
  rcases hor with e | ⟨e, _⟩
  · exact absurd ⟨by omega, by omega, by rw [show self.toNat = c by omega]; exact hF.2, by rw [show self.toNat = c by omega]; exact hx⟩ ht
  · exact e

theorem ts_mem {k : Nat} {t : Int} : t ∈ ts x s self k ↔ (nb x s self t k).isSome = true := by
  induction k with
  | zero => simp [ts, nb]
  | succ k ih =>
    simp only [ts]
    by_cases h : x k ≠ 0 ∧ nb x s self (s k) k = none
    · rw [if_pos h, List.mem_append, ih]
      simp only [nb]
      by_cases ht : s k = t
      · subst ht
        rw [if_pos ⟨h.1, rfl⟩, h.2]
        simp
      · rw [if_neg (fun e => ht e.2)]
        simp [Ne.symm ht]
    · rw [if_neg h, ih]
      simp only [nb]
      by_cases ht : x k ≠ 0 ∧ s k = t
      · rw [if_pos ht]
        obtain ⟨h1, rfl⟩ := ht
        cases hn : nb x s self (s k) k with
        | none => exact absurd ⟨h1, hn⟩ h
        | some c => simp only; split <;> simp
      · rw [if_neg ht]

theorem ts_nodup (k : Nat) : (ts x s self k).Nodup := by
  induction k with
  | zero => simp [ts]
  | succ k ih =>
    simp only [ts]
    split
    · rename_i h
      refine List.nodup_append.2 ⟨ih, by simp, fun a ha b hb hab => ?_⟩
      simp at hb
      subst hb; subst hab
      have := ts_mem.1 ha
      rw [h.2] at this; cases this
    · exact ih

theorem ts_le (k : Nat) : (ts x s self k).length ≤ k := by
  induction k with
  | zero => simp [ts]
  | succ k ih =>
    simp only [ts]
    split
    · simp; omega
    · omega

/-! ### lists -/
theorem perm_of_nodup {l l' : List Int} (h : l.Nodup) (h' : l'.Nodup) (hm : ∀ a, a ∈ l ↔ a ∈ l') : l.Perm l' :=
  (List.perm_ext_iff_of_nodup h h').2 hm

def leI : Int → Int → Bool := fun a b => decide (a ≤ b)

theorem pw_le {l : List Int} (h : l.Pairwise (fun a b => leI a b = true)) : l.Pairwise (fun a b => a ≤ b) := by
  induction h with
  | nil => exact List.Pairwise.nil
  | cons h1 _ ih => exact List.Pairwise.cons (fun b hb => by simpa [leI] using h1 b hb) ih

theorem mergeSort_perm_eq {l l' : List Int} (h : l.Perm l') (hs : l'.Pairwise (fun a b => a ≤ b)) : l.mergeSort leI = l' := by
  have p : (l.mergeSort leI).Perm l' := (List.mergeSort_perm l leI).trans h
  have s1 : (l.mergeSort leI).Pairwise (fun a b => leI a b = true) := List.pairwise_mergeSort (fun a b c => by simp [leI]; omega) (fun a b => by simp [leI]; omega) l
  exact List.Perm.eq_of_pairwise (le := fun a b : Int => a ≤ b) (fun a b _ _ h1 h2 => by omega) (pw_le s1) hs p
end Go.Proofs.Qxb6003791a.Nb
