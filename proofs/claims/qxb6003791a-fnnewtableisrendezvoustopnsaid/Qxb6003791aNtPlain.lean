import Derived.Test.Qxb6003791aNtStr
set_option linter.unusedVariables false
namespace Go.Proofs.Qxb6003791a.Nt

/-- i ranks before j: the greater score; at one score the lesser position. -/
def prec (sc : Nat → Int) (i j : Nat) : Prop := sc j < sc i ∨ (sc i = sc j ∧ i < j)

/-- O lists, best first, the c = min n k that rank first among the first k. -/
structure Top (sc : Nat → Int) (O : Nat → Nat) (c k n : Nat) : Prop where
  cn : c ≤ n
  ck : c ≤ k
  full : c = n ∨ (c = k ∧ ∀ i, i < k → ∃ x, x < c ∧ O x = i)
  lt : ∀ x, x < c → O x < k
  srt : ∀ x y, x < y → y < c → prec sc (O x) (O y)
  top : ∀ i, i < k → (∀ x, x < c → O x ≠ i) → ∀ x, x < c → prec sc (O x) i

variable {sc : Nat → Int} {O : Nat → Nat} {c k n : Nat}

theorem top_start (sc : Nat → Int) (O : Nat → Nat) (n : Nat) : Top sc O 0 0 n :=
  ⟨Nat.zero_le _, Nat.le_refl _, .inr ⟨rfl, fun i hi => absurd hi (by omega)⟩, fun x hx => absurd hx (by omega), fun x y h hy => absurd hy (by omega), fun i hi => absurd hi (by omega)⟩

theorem Top.ge (h : Top sc O c k n) {x y : Nat} (hxy : x ≤ y) (hy : y < c) : sc (O y) ≤ sc (O x) := by
  by_cases e : x = y
  · subst e; exact Int.le_refl _
  · have := h.srt x y (by omega) hy
    unfold prec at this
    omega

theorem top_skip (h : Top sc O n k n) (hn : 0 < n) (hs : sc k ≤ sc (O (n - 1))) : Top sc O n (k + 1) n := by
  refine ⟨Nat.le_refl _, by have := h.ck; omega, .inl rfl, fun x hx => by have := h.lt x hx; omega, h.srt, fun i hi hno x hx => ?_⟩
  by_cases e : i = k
  · subst e
    have h1 := h.ge (x := x) (y := n - 1) (by omega) (by omega)
    have h2 := h.lt x hx
    unfold prec
    omega
  · exact h.top i (by omega) hno x hx

/-- One more is taken in at place j. -/
theorem top_ins (h : Top sc O c k n) {c' j : Nat} (h1 : c < n → c' = c + 1) (h2 : ¬ c < n → c' = c ∧ sc (O (c - 1)) < sc k) (hj : j < c')
    (hlo : j = 0 ∨ sc k ≤ sc (O (j - 1))) (hhi : ∀ x, j ≤ x → x + 1 < c' → sc (O x) < sc k) :
    Top sc (fun x => if x < j then O x else if x = j then k else O (x - 1)) c' (k + 1) n := by
  have hcn := h.cn
  have hck := h.ck
  have hcc : c' = c + 1 ∧ c < n ∨ c' = c ∧ ¬ c < n := by
    by_cases e : c < n
    · exact .inl ⟨h1 e, e⟩
    · exact .inr ⟨(h2 e).1, e⟩
  have hjc : j ≤ c := by omega
  have hlo' : ∀ x, x < j → sc k ≤ sc (O x) := fun x hx => by
    rcases hlo with e | e
    · omega
    · have := h.ge (x := x) (y := j - 1) (by omega) (by omega)
      omega
  -- an old place, still kept
  have old : ∀ x, x < c' → x ≠ j → (x < j ∧ x < c) ∨ (j < x ∧ x - 1 < c ∧ j ≤ x - 1 ∧ x - 1 + 1 < c') := fun x hx hne => by omega
  refine ⟨?_, by omega, ?_, fun x hx => ?_, fun x y hxy hy => ?_, fun i hi hno x hx => ?_⟩
  · by_cases e : c < n
    · have := h1 e; omega
    · have := h2 e; omega
  · by_cases e : c' = n
    · exact .inl e
    · rcases h.full with hf | ⟨hf, hall⟩
      · omega
      · refine .inr ⟨by omega, fun i hi => ?_⟩
        by_cases ei : i = k
        · exact ⟨j, hj, by rw [if_neg (by omega), if_pos rfl, ei]⟩
        · obtain ⟨x, hx, hxi⟩ := hall i (by omega)
          by_cases exj : x < j
          · exact ⟨x, by omega, by rw [if_pos exj, hxi]⟩
          · exact ⟨x + 1, by omega, by rw [if_neg (by omega), if_neg (by omega)]; exact hxi⟩
  · show (if x < j then O x else if x = j then k else O (x - 1)) < k + 1
    split
    · have := h.lt x (by omega); omega
    · split
      · omega
      · have := h.lt (x - 1) (by omega); omega
  · show prec sc (if x < j then O x else if x = j then k else O (x - 1)) (if y < j then O y else if y = j then k else O (y - 1))
    by_cases ex : x < j
    · rw [if_pos ex]
      by_cases ey : y < j
      · rw [if_pos ey]; exact h.srt x y hxy (by omega)
      · rw [if_neg ey]
        by_cases ey2 : y = j
        · rw [if_pos ey2]
          have := hlo' x ex
          have := h.lt x (by omega)
          unfold prec; omega
        · rw [if_neg ey2]; exact h.srt x (y - 1) (by omega) (by omega)
    · rw [if_neg ex]
      by_cases ex2 : x = j
      · rw [if_pos ex2, if_neg (by omega), if_neg (by omega)]
        have := hhi (y - 1) (by omega) (by omega)
        unfold prec; omega
      · rw [if_neg ex2, if_neg (by omega), if_neg (by omega)]
        exact h.srt (x - 1) (y - 1) (by omega) (by omega)
  · show prec sc (if x < j then O x else if x = j then k else O (x - 1)) i
    have hik : i ≠ k := fun e => by
      have := hno j hj
      simp at this
      exact this e.symm
    -- i is among the old ones that were dropped, or was not listed
    by_cases hin : ∃ y, y < c ∧ O y = i
    · obtain ⟨y, hy, hyi⟩ := hin
      have hyl : y = c - 1 ∧ ¬ c < n := by
        by_cases ey : y < j
        · have := hno y (by omega)
          rw [if_pos ey] at this
          exact absurd hyi this
        · by_cases ey2 : y + 1 < c'
          · have := hno (y + 1) ey2
            rw [if_neg (by omega), if_neg (by omega)] at this
            exact absurd hyi this
          · refine ⟨by omega, fun hlt => ?_⟩
            have := h1 hlt
            omega
      obtain ⟨hyc, hnl⟩ := hyl
      obtain ⟨h2a, h2b⟩ := h2 hnl
      subst hyc
      rw [hyi] at h2b
      by_cases ex : x < j
      · rw [if_pos ex, ← hyi]; exact h.srt x (c - 1) (by omega) (by omega)
      · rw [if_neg ex]
        by_cases ex2 : x = j
        · rw [if_pos ex2]; unfold prec; omega
        · rw [if_neg ex2, ← hyi]; exact h.srt (x - 1) (c - 1) (by omega) (by omega)
    · have hno' : ∀ y, y < c → O y ≠ i := fun y hy e => hin ⟨y, hy, e⟩
      have htop := h.top i (by omega) hno'
      by_cases ex : x < j
      · rw [if_pos ex]; exact htop x (by omega)
      · rw [if_neg ex]
        by_cases ex2 : x = j
        · rw [if_pos ex2]
          -- there is an unlisted one, so the list was full: k beats its last
          rcases h.full with hf | ⟨hf, hall⟩
          · have hb := (h2 (by omega)).2
            have hp := htop (c - 1) (by omega)
            unfold prec at hp ⊢
            omega
          · obtain ⟨y, hy, hyi⟩ := hall i (by omega)
            exact absurd hyi (hno' y hy)
        · rw [if_neg ex2]; exact htop (x - 1) (by omega)

/-- What the brute search holds after the first k: none (all are used), or the one that ranks first among those not used. -/
def Least (sc : Nat → Int) (U : Nat → Bool) (k : Nat) : Option Nat → Prop
  | none => ∀ i, i < k → U i = true
  | some b => b < k ∧ U b = false ∧ ∀ i, i < k → U i = false → i = b ∨ prec sc b i

theorem least_used {U : Nat → Bool} {o : Option Nat} (h : Least sc U k o) (hu : U k = true) : Least sc U (k + 1) o := by
  cases o with
  | none =>
    intro i hi
    by_cases e : i = k
    · subst e; exact hu
    · exact h i (by omega)
  | some b =>
    obtain ⟨h1, h2, h3⟩ := h
    refine ⟨by omega, h2, fun i hi hui => ?_⟩
    by_cases e : i = k
    · subst e; rw [hu] at hui; cases hui
    · exact h3 i (by omega) hui

theorem least_first {U : Nat → Bool} (h : Least sc U k none) (hu : U k = false) : Least sc U (k + 1) (some k) := by
  refine ⟨by omega, hu, fun i hi hui => ?_⟩
  by_cases e : i = k
  · exact .inl e
  · have := h i (by omega)
    rw [hui] at this; cases this

theorem least_more {U : Nat → Bool} {b : Nat} (h : Least sc U k (some b)) (hu : U k = false) (hgt : sc b < sc k) : Least sc U (k + 1) (some k) := by
  obtain ⟨h1, h2, h3⟩ := h
  refine ⟨by omega, hu, fun i hi hui => ?_⟩
  by_cases e : i = k
  · exact .inl e
  · right
    rcases h3 i (by omega) hui with e' | e'
    · subst e'; exact .inl hgt
    · unfold prec at e' ⊢; omega

theorem least_not {U : Nat → Bool} {b : Nat} (h : Least sc U k (some b)) (hu : U k = false) (hle : ¬ sc b < sc k) : Least sc U (k + 1) (some b) := by
  obtain ⟨h1, h2, h3⟩ := h
  refine ⟨by omega, h2, fun i hi hui => ?_⟩
  by_cases e : i = k
  · subst e; right; unfold prec; omega
  · exact h3 i (by omega) hui

/-- THE PLAIN LAW: at round r, those listed ahead of place r being used, the search finds the one at place r. -/
theorem least_is {U : Nat → Bool} {m r : Nat} (h : Top sc O n m n) (hr : r < n) (hU : ∀ i, i < m → (U i = true ↔ ∃ x, x < r ∧ O x = i)) {o : Option Nat} (hl : Least sc U m o) : o = some (O r) := by
  have hOr := h.lt r hr
  have hun : U (O r) = false := by
    cases hu : U (O r) with
    | false => rfl
    | true =>
      obtain ⟨x, hx, hxe⟩ := (hU _ hOr).1 hu
      have := h.srt x r hx hr
      rw [hxe] at this
      unfold prec at this
      omega
  cases o with
  | none =>
    have := hl (O r) hOr
    rw [hun] at this; cases this
  | some b =>
    obtain ⟨h1, h2, h3⟩ := hl
    rcases h3 (O r) hOr hun with e | e
    · rw [e]
    · exfalso
      by_cases hin : ∃ y, y < n ∧ O y = b
      · obtain ⟨y, hy, hyb⟩ := hin
        by_cases e1 : y < r
        · have := (hU b h1).2 ⟨y, e1, hyb⟩
          rw [h2] at this; cases this
        · by_cases e2 : y = r
          · subst e2; rw [hyb] at e; unfold prec at e; omega
          · have := h.srt r y (by omega) hy
            rw [hyb] at this
            unfold prec at e this; omega
      · have := h.top b h1 (fun x hx ex => hin ⟨x, hx, ex⟩) r hr
        unfold prec at e this; omega

/-! ### positions of self; the others -/
section
variable (q : Nat → Bool)
/-- The last position below k at which q holds, or -1. -/
def lastTo : Nat → Int
  | 0 => -1
  | k + 1 => if q k = true then (k : Int) else lastTo k
/-- The first, or -1. -/
def firstTo : Nat → Int
  | 0 => -1
  | k + 1 => if firstTo k < 0 ∧ q k = true then (k : Int) else firstTo k
end

theorem lastTo_bd (q : Nat → Bool) (k : Nat) : -1 ≤ lastTo q k ∧ lastTo q k < k := by
  induction k with
  | zero => simp [lastTo]
  | succ k ih => simp only [lastTo]; split <;> omega

theorem firstTo_bd (q : Nat → Bool) (k : Nat) : -1 ≤ firstTo q k ∧ firstTo q k < k := by
  induction k with
  | zero => simp [firstTo]
  | succ k ih => simp only [firstTo]; split <;> omega

theorem firstTo_none {q : Nat → Bool} {k : Nat} (h : ∀ i, i < k → q i = false) : firstTo q k = -1 := by
  induction k with
  | zero => rfl
  | succ k ih =>
    simp only [firstTo]
    rw [if_neg (fun hh => by have := h k (by omega); rw [hh.2] at this; cases this)]
    exact ih (fun i hi => h i (by omega))

theorem firstTo_hit {q : Nat → Bool} {k m : Nat} (h : ∀ i, i < k → q i = false) (hk : q k = true) (hm : k < m) : firstTo q m = k := by
  induction m with
  | zero => omega
  | succ m ih =>
    simp only [firstTo]
    by_cases e : k = m
    · subst e
      rw [firstTo_none h, if_pos ⟨by omega, hk⟩]
    · have := ih (by omega)
      rw [this, if_neg (by omega)]

/-- The positions below k but s, in order. -/
def oth (s : Int) : Nat → List Int
  | 0 => []
  | k + 1 => if (k : Int) = s then oth s k else oth s k ++ [(k : Int)]

theorem oth_le (s : Int) (k : Nat) : (oth s k).length ≤ k := by
  induction k with
  | zero => simp [oth]
  | succ k ih =>
    simp only [oth]
    split
    · omega
    · simp; omega

theorem oth_pre (s : Int) {k m : Nat} (h : k ≤ m) : ∃ t, oth s m = oth s k ++ t := by
  induction m with
  | zero =>
    obtain rfl : k = 0 := by omega
    exact ⟨[], by simp⟩
  | succ m ih =>
    by_cases e : k = m + 1
    · subst e; exact ⟨[], by simp⟩
    · obtain ⟨t, ht⟩ := ih (by omega)
      simp only [oth]
      split
      · exact ⟨t, ht⟩
      · exact ⟨t ++ [(m : Int)], by rw [ht, List.append_assoc]⟩

theorem oth_at (s : Int) {k m : Nat} (h : k < m) (hne : ¬ (k : Int) = s) : (oth s m)[(oth s k).length]? = some (k : Int) ∧ (oth s k).length < (oth s m).length := by
  obtain ⟨t, ht⟩ := oth_pre s (show k + 1 ≤ m from h)
  have he : oth s (k + 1) = oth s k ++ [(k : Int)] := by simp [oth, hne]
  rw [ht, he]
  simp
end Go.Proofs.Qxb6003791a.Nt
namespace Go.Proofs.Qxb6003791a.Nt
/-- The places behind j (up to c) hold what stood one place ahead. -/
def shf (F : Nat → Int) (j c x : Nat) : Int := if j < x ∧ x < c then F (x - 1) else F x

theorem shf_start (F : Nat → Int) (c x : Nat) : F x = shf F (c - 1) c x := by
  unfold shf; rw [if_neg (by omega)]

theorem shf_step {F F2 : Nat → Int} {j c n : Nat} (h : ∀ y, y < n → F2 y = shf F (j + 1) c y) (hj : j + 1 < c) (hcn : c ≤ n) : ∀ y, y < n → (if y = j + 1 then F2 j else F2 y) = shf F j c y := by
  intro y hy
  by_cases e : y = j + 1
  · subst e
    rw [if_pos rfl, h j (by omega)]
    unfold shf
    rw [if_neg (by omega), if_pos (by omega)]
    rfl
  · rw [if_neg e, h y hy]
    unfold shf
    by_cases e2 : j + 1 < y ∧ y < c
    · rw [if_pos e2, if_pos (by omega)]
    · rw [if_neg e2, if_neg (by omega)]

theorem ins_done {sc : Nat → Int} {O : Nat → Nat} {x k n cc j pn : Nat} {Ow1 Sx1 Ow2 Sx2 : Nat → Int} (hT : Top sc O x k n) (hag : ∀ y, y < x → Ow1 (pn + y) = (O y : Int) ∧ Sx1 y = sc (O y)) (hcn : cc ≤ n)
    (h1 : x < n → cc = x + 1) (h2 : ¬ x < n → cc = x ∧ Sx1 (x - 1) < sc k) (hj : j < cc)
    (hS : ∀ y, y < n → Sx2 y = shf Sx1 j cc y) (hO : ∀ y, y < n → Ow2 (pn + y) = shf (fun y => Ow1 (pn + y)) j cc y)
    (hlo : j = 0 ∨ sc k ≤ Sx1 (j - 1)) (hhi : ∀ y, j ≤ y → y + 1 < cc → Sx1 y < sc k) :
    Top sc (fun y => if y < j then O y else if y = j then k else O (y - 1)) cc (k + 1) n ∧
    ∀ y, y < cc → (if pn + y = pn + j then (k : Int) else Ow2 (pn + y)) = (((fun y => if y < j then O y else if y = j then k else O (y - 1)) y : Nat) : Int) ∧ (if y = j then sc k else Sx2 y) = sc ((fun y => if y < j then O y else if y = j then k else O (y - 1)) y) := by
  have hxn := hT.cn
  have hcc : cc = x + 1 ∧ x < n ∨ cc = x ∧ ¬ x < n := by
    by_cases e : x < n
    · exact .inl ⟨h1 e, e⟩
    · exact .inr ⟨(h2 e).1, e⟩
  refine ⟨top_ins hT h1 (fun e => ⟨(h2 e).1, by have := (h2 e).2; rw [(hag (x - 1) (by omega)).2] at this; exact this⟩) hj ?_ (fun y hy hyc => by have := hhi y hy hyc; rw [(hag y (by omega)).2] at this; exact this), fun y hy => ?_⟩
  · rcases hlo with e | e
    · exact .inl e
    · by_cases e0 : j = 0
      · exact .inl e0
      · right; rw [(hag (j - 1) (by omega)).2] at e; exact e
  · show (if pn + y = pn + j then (k : Int) else Ow2 (pn + y)) = ((if y < j then O y else if y = j then k else O (y - 1) : Nat) : Int) ∧ (if y = j then sc k else Sx2 y) = sc (if y < j then O y else if y = j then k else O (y - 1))
    by_cases e : y = j
    · rw [if_pos (by omega), if_pos e, if_neg (by omega), if_pos e]
      exact ⟨rfl, rfl⟩
    · have eO : (if pn + y = pn + j then (k : Int) else Ow2 (pn + y)) = Ow2 (pn + y) := if_neg (by omega)
      have eS : (if y = j then sc k else Sx2 y) = Sx2 y := if_neg e
      rw [eO, eS, hS y (by omega), hO y (by omega)]
      by_cases e2 : y < j
      · have eN : (if y < j then O y else if y = j then k else O (y - 1)) = O y := if_pos e2
        have hno : ¬ (j < y ∧ y < cc) := by omega
        rw [eN]
        unfold shf
        refine ⟨?_, ?_⟩
        · rw [if_neg hno]; exact (hag y (by omega)).1
        · rw [if_neg hno]; exact (hag y (by omega)).2
      · have eN : (if y < j then O y else if y = j then k else O (y - 1)) = O (y - 1) := by rw [if_neg e2, if_neg e]
        have hyes : j < y ∧ y < cc := by omega
        rw [eN]
        unfold shf
        refine ⟨?_, ?_⟩
        · rw [if_pos hyes]; exact (hag (y - 1) (by omega)).1
        · rw [if_pos hyes]; exact (hag (y - 1) (by omega)).2
end Go.Proofs.Qxb6003791a.Nt
