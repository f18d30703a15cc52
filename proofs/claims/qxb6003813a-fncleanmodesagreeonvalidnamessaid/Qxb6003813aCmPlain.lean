import Derived.Lib.CleanFns
set_option linter.unusedVariables false
namespace Go.Proofs.Qxb6003813a.Cm
open Go.Lib

/-- An element that path.Clean keeps. -/
def Ok (e : List UInt8) : Prop := e ≠ [] ∧ e ≠ [46] ∧ e ≠ [46, 46]

theorem els_ne (l : List UInt8) : Pa.els l ≠ [] := by
  cases l with
  | nil => simp [Pa.els]
  | cons c t =>
    simp only [Pa.els]
    split
    · simp
    · split <;> simp

theorem els_none {e : List UInt8} (h : (47 : UInt8) ∉ e) : Pa.els e = [e] := by
  induction e with
  | nil => simp [Pa.els]
  | cons c t ih =>
    have h1 : c ≠ 47 := fun e => h (by simp [e])
    have h2 : (47 : UInt8) ∉ t := fun e => h (by simp [e])
    simp only [Pa.els]
    rw [if_neg h1, ih h2]

theorem els_append {e r : List UInt8} (h : (47 : UInt8) ∉ e) : Pa.els (e ++ 47 :: r) = e :: Pa.els r := by
  induction e with
  | nil => simp [Pa.els]
  | cons c t ih =>
    have h1 : c ≠ 47 := fun e => h (by simp [e])
    have h2 : (47 : UInt8) ∉ t := fun e => h (by simp [e])
    simp only [Pa.els, List.cons_append]
    rw [if_neg h1, ih h2]

theorem inter_cons (e : List UInt8) {es : List (List UInt8)} (h : es ≠ []) : ([47] : List UInt8).intercalate (e :: es) = e ++ 47 :: ([47] : List UInt8).intercalate es := by
  cases es with
  | nil => exact absurd rfl h
  | cons a t => simp [List.intercalate, List.intersperse]

theorem inter_head (c : UInt8) (e : List UInt8) (r : List (List UInt8)) : ([47] : List UInt8).intercalate ((c :: e) :: r) = c :: ([47] : List UInt8).intercalate (e :: r) := by
  cases r with
  | nil => simp [List.intercalate, List.intersperse]
  | cons a t => simp [List.intercalate, List.intersperse]

theorem join_els (l : List UInt8) : ([47] : List UInt8).intercalate (Pa.els l) = l := by
  induction l with
  | nil => simp [Pa.els, List.intercalate]
  | cons c t ih =>
    simp only [Pa.els]
    split
    · rename_i h
      rw [inter_cons _ (els_ne t), ih, h]; rfl
    · cases he : Pa.els t with
      | nil => exact absurd he (els_ne t)
      | cons e r =>
        simp only
        rw [inter_head, ← he, ih]

theorem fold_ok (es st : List (List UInt8)) (h : ∀ e ∈ es, Ok e) : es.foldl (Pa.cleanStep true) st = es.reverse ++ st := by
  induction es generalizing st with
  | nil => rfl
  | cons e t ih =>
    have h1 := h e (by simp)
    rw [List.foldl_cons, ih _ (fun a ha => h a (by simp [ha]))]
    unfold Pa.cleanStep
    rw [if_neg (fun e => e.elim h1.1 h1.2.1), if_neg h1.2.2]
    simp

/-- THE PLAIN LAW: a path whose elements are all kept is its own clean form. -/
theorem clean_ok {n : List UInt8} (h : ∀ e ∈ Pa.els n, Ok e) : Pa.cleanEls (47 :: n) = 47 :: n := by
  have e1 : Pa.els (47 :: n) = [] :: Pa.els n := by simp [Pa.els]
  unfold Pa.cleanEls
  rw [if_neg (by simp), e1]
  have e2 : Pa.cleanStep true [] [] = [] := by simp [Pa.cleanStep]
  have e3 : ((47 :: n).head? == some (47 : UInt8)) = true := by simp
  simp only [e3, if_true, List.foldl_cons, e2]
  rw [fold_ok _ _ h, List.append_nil, List.reverse_reverse, join_els]

theorem clean_dot : Pa.cleanEls [47, 46] = [47] := by decide

/-- What zzCleanElems has found when it stands at place i, its element beginning at 'st'. -/
def Seen (l : List UInt8) (st i : Nat) : Prop :=
  (i ≤ l.length ∧ st ≤ i ∧ (47 : UInt8) ∉ (l.drop st).take (i - st) ∧ ((∀ e ∈ Pa.els (l.drop st), Ok e) → ∀ e ∈ Pa.els (l.drop 1), Ok e)) ∨ (i = l.length + 1 ∧ ∀ e ∈ Pa.els (l.drop 1), Ok e)

theorem seen_start {l : List UInt8} (h : 1 ≤ l.length) : Seen l 1 1 := .inl ⟨h, Nat.le_refl _, by simp, id⟩

theorem seen_step {l : List UInt8} {st i : Nat} (h : Seen l st i) (hi : i < l.length) (hc : l[i]? ≠ some 47) : Seen l st (i + 1) := by
  rcases h with ⟨h1, h2, h3, h4⟩ | ⟨h1, _⟩
  · refine .inl ⟨hi, by omega, ?_, h4⟩
    have e1 : (l.drop st).take (i + 1 - st) = (l.drop st).take (i - st) ++ [l[i]] := by
      rw [show i + 1 - st = (i - st) + 1 by omega, List.take_add_one, List.getElem?_drop, show st + (i - st) = i by omega, List.getElem?_eq_getElem hi]
      rfl
    rw [e1]
    intro hm
    rcases List.mem_append.1 hm with hm | hm
    · exact h3 hm
    · simp at hm
      exact hc (by rw [List.getElem?_eq_getElem hi, hm])
  · omega

theorem drop_split {l : List UInt8} {st i : Nat} (h1 : i < l.length) (h2 : st ≤ i) (hc : l[i]? = some 47) : l.drop st = (l.drop st).take (i - st) ++ 47 :: l.drop (i + 1) := by
  have e1 : (l.drop st).drop (i - st) = 47 :: l.drop (i + 1) := by
    rw [List.drop_drop, show st + (i - st) = i by omega, List.drop_eq_getElem_cons h1]
    rw [List.getElem?_eq_getElem h1] at hc
    simp at hc
    rw [hc]
  conv => lhs; rw [← List.take_append_drop (i - st) (l.drop st), e1]

theorem seen_slash {l : List UInt8} {st i : Nat} (h : Seen l st i) (hi : i < l.length) (hc : l[i]? = some 47) (hok : Ok ((l.drop st).take (i - st))) : Seen l (i + 1) (i + 1) := by
  rcases h with ⟨h1, h2, h3, h4⟩ | ⟨h1, _⟩
  · refine .inl ⟨hi, Nat.le_refl _, by simp, fun hh => h4 ?_⟩
    rw [drop_split hi h2 hc, els_append h3]
    intro e he
    rcases List.mem_cons.1 he with rfl | he
    · exact hok
    · exact hh e he
  · omega

theorem seen_end {l : List UInt8} {st : Nat} (h : Seen l st l.length) (hok : Ok ((l.drop st).take (l.length - st))) : Seen l (l.length + 1) (l.length + 1) := by
  rcases h with ⟨h1, h2, h3, h4⟩ | ⟨h1, _⟩
  · refine .inr ⟨rfl, h4 ?_⟩
    have e1 : (l.drop st).take (l.length - st) = l.drop st := List.take_of_length_le (by simp)
    rw [e1] at h3 hok
    rw [els_none h3]
    intro e he
    simp at he
    rw [he]; exact hok
  · omega

theorem seen_done {l : List UInt8} {st : Nat} (h : Seen l st (l.length + 1)) : ∀ e ∈ Pa.els (l.drop 1), Ok e := by
  rcases h with ⟨h1, _⟩ | ⟨_, h2⟩
  · omega
  · exact h2
end Go.Proofs.Qxb6003813a.Cm
