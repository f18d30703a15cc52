import Derived.Test.Qxb6003994aDoorUiDefs
set_option linter.unusedVariables false
namespace Go.Proofs.Qxb6003994aDoor.Ui
open Go.RowKit

def MAX : Nat := 18446744073709551615

theorem parse_mono {M : Nat} {l : List UInt8} : ∀ {acc n : Nat}, Lib.parseUintM M acc l = .ok n → acc ≤ n := by
  induction l with
  | nil => intro acc n h; simp [Lib.parseUintM] at h; omega
  | cons c r ih =>
    intro acc n h
    simp only [Lib.parseUintM] at h
    split at h
    · split at h
      · cases h
      · split at h
        · cases h
        · have := ih h; omega
    · cases h

theorem parse_le {M : Nat} {l : List UInt8} : ∀ {acc n : Nat}, acc ≤ M → (Lib.parseUintM M acc l = .ok n) → n ≤ M := by
  induction l with
  | nil => intro acc n h0 h; simp [Lib.parseUintM] at h; omega
  | cons c r ih =>
    intro acc n h0 h
    simp only [Lib.parseUintM] at h
    split at h
    · split at h
      · cases h
      · split at h
        · cases h
        · exact ih (by omega) h
    · cases h

/-- THE PLAIN LAW: a bound on the way is a bound at the end. -/
theorem parse_iff {M : Nat} (hM : M ≤ MAX) {l : List UInt8} : ∀ {acc n : Nat}, acc ≤ M → (Lib.parseUintM M acc l = .ok n ↔ Lib.parseUintM MAX acc l = .ok n ∧ n ≤ M) := by
  induction l with
  | nil => intro acc n h0; simp [Lib.parseUintM]; omega
  | cons c r ih =>
    intro acc n h0
    by_cases hd : 48 ≤ c.toNat ∧ c.toNat ≤ 57
    · by_cases hc : 1844674407370955162 ≤ acc
      · simp [Lib.parseUintM, hd, hc]
      · by_cases ho : M < acc * 10 + (c.toNat - 48)
        · constructor
          · intro h; simp [Lib.parseUintM, hd, hc, ho] at h
          · rintro ⟨h1, h2⟩
            exfalso
            simp only [Lib.parseUintM] at h1
            rw [if_pos hd, if_neg hc] at h1
            split at h1
            · cases h1
            · have := parse_mono h1; omega
        · have h3 : ¬ MAX < acc * 10 + (c.toNat - 48) := by omega
          simp only [Lib.parseUintM]
          rw [if_pos hd, if_neg hc, if_neg ho, if_pos hd, if_neg hc, if_neg h3]
          exact ih (by omega)
    · simp [Lib.parseUintM, hd]

/-- No leading zero. -/
def lead (l : List UInt8) : Bool := l.head? == some 48 && decide (1 < l.length)

/-- What decimal.Uint answers. -/
def uintR (M : Nat) (l : List UInt8) : Option Nat := if lead l = true then none else uintO M l

/-- What zzCanonMag answers. -/
def magR (l : List UInt8) : Option Nat := uintR MAX l

/-- What zzModelUint answers. -/
def modelR (M : Nat) (l : List UInt8) : Option Nat := match magR l with
  | some m => if m ≤ M then some m else none
  | none => none

theorem okOf_some {e : Lib.NumEnd Nat} {n : Nat} : okOf e = some n ↔ e = .ok n := by
  cases e <;> simp [okOf]

theorem uint_model {M : Nat} (hM : M ≤ MAX) (l : List UInt8) : uintR M l = modelR M l := by
  unfold modelR magR uintR
  by_cases hl : lead l = true
  · simp [hl]
  · rw [if_neg hl, if_neg hl]
    unfold uintO
    by_cases h0 : l = []
    · simp [h0]
    · rw [if_neg h0, if_neg h0]
      cases h1 : okOf (Lib.parseUintM MAX 0 l) with
      | none =>
        cases h2 : okOf (Lib.parseUintM M 0 l) with
        | none => rfl
        | some n =>
          have := ((parse_iff hM (Nat.zero_le _)).1 (okOf_some.1 h2)).1
          rw [okOf_some.2 this] at h1
          cases h1
      | some m =>
        simp only
        by_cases hm : m ≤ M
        · rw [if_pos hm]
          exact okOf_some.2 ((parse_iff hM (Nat.zero_le _)).2 ⟨okOf_some.1 h1, hm⟩)
        · rw [if_neg hm]
          cases h2 : okOf (Lib.parseUintM M 0 l) with
          | none => rfl
          | some n =>
            obtain ⟨h3, h4⟩ := (parse_iff hM (Nat.zero_le _)).1 (okOf_some.1 h2)
            rw [okOf_some.1 h1] at h3
            cases h3
            exact absurd h4 hm
end Go.Proofs.Qxb6003994aDoor.Ui
