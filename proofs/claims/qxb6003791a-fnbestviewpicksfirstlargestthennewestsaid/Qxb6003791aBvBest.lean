import Derived.Test.Qxb6003791aBvBase
import Derived.Deep.MidRow
import Derived.Deep.QuietTactic
import Derived.BigQuiet
import Derived.Deep.DeepFit
import Derived.Deep.DeepMust
import Derived.Deep.Light
namespace Go.Proofs.Qxb6003791a.Bv
open Go.RowKit

def ansArr (ad st : ByteArray) (p : Option Addr) : Array Value := #[.string ad, .string ⟨#[]⟩, .string ⟨#[]⟩, .string ⟨#[]⟩, .int .u64 0, .string st, .pointer p, .string ⟨#[]⟩]

def bstep (E : Nat → Bool) (C : Nat → Nat) (I : Nat → Int) (o : Option Nat) (k : Nat) : Option Nat :=
  if E k = true then
    match o with
    | none => some k
    | some b => if C b < C k ∨ (C k = C b ∧ I b < I k) then some k else some b
  else o

def bestTo (E : Nat → Bool) (C : Nat → Nat) (I : Nat → Int) : Nat → Option Nat
  | 0 => none
  | k + 1 => bstep E C I (bestTo E C I k) k

theorem bestTo_lt {E : Nat → Bool} {C : Nat → Nat} {I : Nat → Int} : ∀ {k b : Nat}, bestTo E C I k = some b → b < k ∧ E b = true
  | 0, b, h => by simp [bestTo] at h
  | k + 1, b, h => by
    have ih := @bestTo_lt E C I k
    simp only [bestTo, bstep] at h
    split at h
    · rename_i hE
      split at h
      · simp at h; subst h; exact ⟨by omega, hE⟩
      · rename_i b' hb'
        split at h
        · simp at h; subst h; exact ⟨by omega, hE⟩
        · simp at h; subst h
          have := ih hb'
          exact ⟨by omega, this.2⟩
    · have := ih h
      exact ⟨by omega, this.2⟩

/-- The cells of what bestView holds as the best so far. -/
def bestArr (St : Nat → ByteArray) (Vp : Nat → Option Addr) : Option Nat → Array Value
  | none => ansArr ⟨#[]⟩ ⟨#[]⟩ none
  | some b => ansArr ⟨#[97]⟩ (St b) (Vp b)

structure BI (w wr : World) (St : Nat → ByteArray) (Vp : Nat → Option Addr) (o : Option Nat) : Prop where
  below : Below w.heap.size w wr
  size : w.heap.size + 2 ≤ wr.heap.size
  res : wr.heap[w.heap.size]? = some (.cells (ansArr ⟨#[]⟩ ⟨#[]⟩ none) 46 (0, 0))
  best : wr.heap[w.heap.size + 1]? = some (.cells (bestArr St Vp o) 46 (0, 0))

theorem bi_start (w : World) (St : Nat → ByteArray) (Vp : Nat → Option Addr) : BI w ((w.alloc (.cells (ansArr ⟨#[]⟩ ⟨#[]⟩ none) 46)).alloc (.cells (ansArr ⟨#[]⟩ ⟨#[]⟩ none) 46)) St Vp none :=
  ⟨((Below.refl _ _).alloc (Nat.le_refl _) _).alloc (by simp) _, by simp, heap_alloc2_old _ _ _, heap_alloc2_new _ _ _⟩

theorem bi_alloc {w wr : World} {St : Nat → ByteArray} {Vp : Nat → Option Addr} {o : Option Nat} (h : BI w wr St Vp o) (ob : Obj) : BI w (wr.alloc ob) St Vp o :=
  ⟨h.below.alloc (by have := h.size; omega) _, by have := h.size; simp; omega, by rw [Below.heap_alloc _ _ _ (by have := h.size; omega)]; exact h.res, by rw [Below.heap_alloc _ _ _ (by have := h.size; omega)]; exact h.best⟩

theorem bi_drewN {w wr : World} {St : Nat → ByteArray} {Vp : Nat → Option Addr} {o : Option Nat} (h : BI w wr St Vp o) (m : Nat) : BI w (wr.drewN m) St Vp o := by
  induction m with
  | zero => exact h
  | succ m ih => exact ⟨ih.below.drew, ih.size, ih.res, ih.best⟩

theorem bi_put {w x : World} {St : Nat → ByteArray} {Vp : Nat → Option Addr} {o : Option Nat} {k : Nat} {s : ByteArray} {a : Option Addr} (h : BI w x St Vp o) (hs : St k = s) (ha : Vp k = a) :
    BI w ((((((((x.setCell ⟨w.heap.size + 1, 0, none⟩ (.string ⟨#[97]⟩)).setCell ⟨w.heap.size + 1, 1, none⟩ (.string ⟨#[]⟩)).setCell ⟨w.heap.size + 1, 2, none⟩ (.string ⟨#[]⟩)).setCell ⟨w.heap.size + 1, 3, none⟩ (.string ⟨#[]⟩)).setCell ⟨w.heap.size + 1, 4, none⟩ (.int .u64 0)).setCell ⟨w.heap.size + 1, 5, none⟩ (.string s)).setCell ⟨w.heap.size + 1, 6, none⟩ (.pointer a)).setCell ⟨w.heap.size + 1, 7, none⟩ (.string ⟨#[]⟩)) St Vp (some k) := by
  refine ⟨?_, ?_, ?_, ?_⟩
  · refine Below.setCell (Below.setCell (Below.setCell (Below.setCell (Below.setCell (Below.setCell (Below.setCell (Below.setCell h.below ?_ _) ?_ _) ?_ _) ?_ _) ?_ _) ?_ _) ?_ _) ?_ _ <;> exact Nat.le_succ _
  · have := h.size; simp [World.setCell]; omega
  · have := h.res
    repeat (rw [Below.heap_setCell _ _ _ _ (by show w.heap.size ≠ w.heap.size + 1; omega)])
    exact this
  · have e := h.best
    have s1 := heap_setCell_same x (w.heap.size + 1) 0 _ 46 (.string ⟨#[97]⟩) e
    have s2 := heap_setCell_same _ (w.heap.size + 1) 1 _ 46 (.string ⟨#[]⟩) s1
    have s3 := heap_setCell_same _ (w.heap.size + 1) 2 _ 46 (.string ⟨#[]⟩) s2
    have s4 := heap_setCell_same _ (w.heap.size + 1) 3 _ 46 (.string ⟨#[]⟩) s3
    have s5 := heap_setCell_same _ (w.heap.size + 1) 4 _ 46 (.int .u64 0) s4
    have s6 := heap_setCell_same _ (w.heap.size + 1) 5 _ 46 (.string s) s5
    have s7 := heap_setCell_same _ (w.heap.size + 1) 6 _ 46 (.pointer a) s6
    have s8 := heap_setCell_same _ (w.heap.size + 1) 7 _ 46 (.string ⟨#[]⟩) s7
    rw [s8]
    cases o <;> simp [bestArr, ansArr, hs, ha]

set_option maxRecDepth 100000 in
set_option maxHeartbeats 1000000 in
theorem best_any (A V n : Nat) (St : Nat → ByteArray) (Vp Ms : Nat → Option Addr) (E : Nat → Bool) (C : Nat → Nat) (I : Nat → Int) (w : World) (hn : n ≤ 1024)
    (hA : ∀ i, i < n → w.rangeAt A (i * 8) (ansArr ⟨#[97]⟩ (St i) (Vp i)).toList)
    (hE1 : ∀ i, i < n → E i = true → St i = ⟨#[109, 101, 109, 98, 101, 114]⟩ ∧ Vp i = some ⟨V, i * 5, none⟩)
    (hE0 : ∀ i, i < n → E i = false → ¬ (St i).toList = [109, 101, 109, 98, 101, 114] ∨ Vp i = none)
    (hV : ∀ i, i < n → w.cell? ⟨V, i * 5 + 1, none⟩ = some (.int .u64 (I i)) ∧ w.cell? ⟨V, i * 5 + 2, none⟩ = some (.slice (Ms i) (C i) (C i))) :
    Calls Try.prog 37 #[.slice (some ⟨A, 0, none⟩) n n] w fun e w' => e = .returned (.tuple #[.agg (bestArr St Vp (bestTo E C I n)), .bool (bestTo E C I n).isSome]) ∧ Below w.heap.size w w' := by
  go_enter Try.func37, Try.ntmps37
  go_wp2
  go_loopg [5, 12] n (fun g f i wr => ∃ k : Nat, k ≤ n ∧ g = n - k ∧ i = .int .i64 k ∧ f = .bool (bestTo E C I k).isSome ∧ BI w wr St Vp (bestTo E C I k))
  case atStart => exact ⟨0, Nat.zero_le _, rfl, rfl, rfl, bi_start w St Vp⟩
  case round =>
    obtain ⟨k, hk, rfl, rfl, rfl, hb⟩ := hrel
    by_cases hlt : k < n
    · have hkz : (k : Int) < (n : Int) := by omega
      have hAk := hA k hlt
      have hAl : A < w.heap.size := World.block_lt_of_cell? _ _ (hAk 0 _ rfl)
      have g0 : wr.cell? ⟨A, k * 8, none⟩ = some (.string ⟨#[97]⟩) := by rw [hb.below.cell (p := ⟨A, k * 8, none⟩) hAl]; exact hAk 0 _ rfl
      have g1 : wr.cell? ⟨A, k * 8 + 1, none⟩ = some (.string ⟨#[]⟩) := by rw [hb.below.cell (p := ⟨A, k * 8 + 1, none⟩) hAl]; exact hAk 1 _ rfl
      have g2 : wr.cell? ⟨A, k * 8 + 2, none⟩ = some (.string ⟨#[]⟩) := by rw [hb.below.cell (p := ⟨A, k * 8 + 2, none⟩) hAl]; exact hAk 2 _ rfl
      have g3 : wr.cell? ⟨A, k * 8 + 3, none⟩ = some (.string ⟨#[]⟩) := by rw [hb.below.cell (p := ⟨A, k * 8 + 3, none⟩) hAl]; exact hAk 3 _ rfl
      have g4 : wr.cell? ⟨A, k * 8 + 4, none⟩ = some (.int .u64 0) := by rw [hb.below.cell (p := ⟨A, k * 8 + 4, none⟩) hAl]; exact hAk 4 _ rfl
      have g5 : wr.cell? ⟨A, k * 8 + 5, none⟩ = some (.string (St k)) := by rw [hb.below.cell (p := ⟨A, k * 8 + 5, none⟩) hAl]; exact hAk 5 _ rfl
      have g6 : wr.cell? ⟨A, k * 8 + 6, none⟩ = some (.pointer (Vp k)) := by rw [hb.below.cell (p := ⟨A, k * 8 + 6, none⟩) hAl]; exact hAk 6 _ rfl
      have g7 : wr.cell? ⟨A, k * 8 + 7, none⟩ = some (.string ⟨#[]⟩) := by rw [hb.below.cell (p := ⟨A, k * 8 + 7, none⟩) hAl]; exact hAk 7 _ rfl
      clear hA hAk
      have hsz := hb.size
      cases hEk : E k with
      | false =>
        have hbt : bestTo E C I (k + 1) = bestTo E C I k := by simp [bestTo, bstep, hEk]
        have HBT := hide hbt
        have Hb := hide hb
        clear hbt hb hE1
        rcases hE0 k hlt hEk with hs | hp
        · clear hE0
          go_wp2_with fail
          go_roundg (n - (k + 1))
          case measure => omega
          case rel => exact ⟨k + 1, by omega, rfl, by go_num, by rw [unhide HBT], by rw [unhide HBT]; exact bi_alloc (unhide Hb) _⟩
        · rw [hp] at g6
          clear hE0 hp
          go_wp2_with fail
          all_goals
            go_roundg (n - (k + 1))
            case measure => omega
            case rel => exact ⟨k + 1, by omega, rfl, by go_num, by rw [unhide HBT], by rw [unhide HBT]; exact bi_alloc (unhide Hb) _⟩
      | true =>
        obtain ⟨hs, hp⟩ := hE1 k hlt hEk
        rw [hs] at g5
        rw [hp] at g6
        obtain ⟨v1, v2⟩ := hV k hlt
        have hVl : V < w.heap.size := World.block_lt_of_cell? _ _ v1
        have hVr : V < wr.heap.size := by omega
        have hsz1 : w.heap.size + 1 < wr.heap.size := by omega
        have c1 : wr.cell? ⟨V, k * 5 + 1, none⟩ = some (.int .u64 (I k)) := by rw [hb.below.cell (p := ⟨V, k * 5 + 1, none⟩) hVl]; exact v1
        have c2 : wr.cell? ⟨V, k * 5 + 2, none⟩ = some (.slice (Ms k) (C k) (C k)) := by rw [hb.below.cell (p := ⟨V, k * 5 + 2, none⟩) hVl]; exact v2
        have hbs : ∀ b, bestTo E C I k = some b → b < k ∧ E b = true := fun b h => bestTo_lt h
        have Hs := hide hs
        have Hp := hide hp
        have HE := hide hEk
        clear hs hp hEk v1 v2 hE0
        generalize ho : bestTo E C I k = o at *
        have Ho := hide ho
        clear ho
        have hq := hb.best
        have fz : ∀ j, wr.frozen? ⟨w.heap.size + 1, j, none⟩ = false := fun j => frozen_of_row wr _ j _ _ hq
        have qc : ∀ j, wr.cell? ⟨w.heap.size + 1, j, none⟩ = (bestArr St Vp o)[j]? := fun j => cell_of_row wr _ j _ _ _ hq
        cases o with
        | none =>
          rw [show (none : Option Nat).isSome = false from rfl]
          have q0 := qc 0
          have q1 := qc 1
          have q2 := qc 2
          have q3 := qc 3
          have q4 := qc 4
          have q5 := qc 5
          have q6 := qc 6
          have q7 := qc 7
          simp [bestArr, ansArr] at q0 q1 q2 q3 q4 q5 q6 q7
          clear qc hq hbs hE1 hV
          have Hb := hide hb
          clear hb
          go_wp2_with fail
          go_quiet (fail)
          go_wp2_with fail
          go_quiet (fail)
          go_wp2_with fail
          have hbt : bestTo E C I (k + 1) = some k := by simp [bestTo, bstep, unhide HE, unhide Ho]
          go_roundg (n - (k + 1))
          case measure => omega
          case rel => exact ⟨k + 1, by omega, rfl, by go_num, by rw [hbt]; rfl, by rw [hbt]; exact bi_put (bi_drewN (bi_alloc (unhide Hb) _) _) (unhide Hs) (unhide Hp)⟩
        | some b =>
          obtain ⟨hbk, hEb⟩ := hbs b rfl
          obtain ⟨hsb, hpb⟩ := hE1 b (by omega) hEb
          obtain ⟨v1, v2⟩ := hV b (by omega)
          have d1 : wr.cell? ⟨V, b * 5 + 1, none⟩ = some (.int .u64 (I b)) := by rw [hb.below.cell (p := ⟨V, b * 5 + 1, none⟩) hVl]; exact v1
          have d2 : wr.cell? ⟨V, b * 5 + 2, none⟩ = some (.slice (Ms b) (C b) (C b)) := by rw [hb.below.cell (p := ⟨V, b * 5 + 2, none⟩) hVl]; exact v2
          rw [show (some b).isSome = true from rfl]
          have q0 := qc 0
          have q1 := qc 1
          have q2 := qc 2
          have q3 := qc 3
          have q4 := qc 4
          have q5 := qc 5
          have q6 := qc 6
          have q7 := qc 7
          simp [bestArr, ansArr, hpb] at q0 q1 q2 q3 q4 q5 q6 q7
          clear qc hq hbs hE1 hV hsb hpb hEb v1 v2
          have Hb := hide hb
          clear hb
          rcases Nat.lt_trichotomy (C b) (C k) with hm | hm | hm
          · have hm' : (C b : Int) < (C k : Int) := by omega
            have hbt : bestTo E C I (k + 1) = some k := by simp [bestTo, bstep, unhide HE, unhide Ho, hm]
            have HBT := hide hbt
            have hne : ((C k : Int) == (C b : Int)) = false := by simp; omega
            clear hbt hm
            go_wp2_with fail
            go_quiet (fail)
            go_wp2_with fail
            go_quiet (fail)
            go_wp2_with fail
            go_roundg (n - (k + 1))
            case measure => omega
            case rel => exact ⟨k + 1, by omega, rfl, by go_num, by rw [unhide HBT]; rfl, by rw [unhide HBT]; exact bi_put (bi_drewN (bi_alloc (unhide Hb) _) _) (unhide Hs) (unhide Hp)⟩
          · have hm1 : ¬ (C b : Int) < (C k : Int) := by omega
            have heq : ((C k : Int) == (C b : Int)) = true := by simp; omega
            by_cases hI : I b < I k
            · have hbt : bestTo E C I (k + 1) = some k := by simp [bestTo, bstep, unhide HE, unhide Ho, hm, hI]
              have HBT := hide hbt
              clear hbt hm
              go_wp2_with fail
              go_quiet (fail)
              go_wp2_with fail
              go_quiet (fail)
              go_wp2_with fail
              go_roundg (n - (k + 1))
              case measure => omega
              case rel => exact ⟨k + 1, by omega, rfl, by go_num, by rw [unhide HBT]; rfl, by rw [unhide HBT]; exact bi_put (bi_drewN (bi_alloc (unhide Hb) _) _) (unhide Hs) (unhide Hp)⟩
            · have hbt : bestTo E C I (k + 1) = some b := by simp [bestTo, bstep, unhide HE, unhide Ho, hm, hI]
              have HBT := hide hbt
              clear hbt hm
              go_wp2_with fail
              go_quiet (fail)
              go_wp2_with fail
              go_quiet (fail)
              go_wp2_with fail
              go_roundg (n - (k + 1))
              case measure => omega
              case rel => exact ⟨k + 1, by omega, rfl, by go_num, by rw [unhide HBT]; rfl, by rw [unhide HBT]; exact bi_drewN (bi_alloc (unhide Hb) _) _⟩
          · have hm1 : ¬ (C b : Int) < (C k : Int) := by omega
            have hne : ((C k : Int) == (C b : Int)) = false := by simp; omega
            have hbt : bestTo E C I (k + 1) = some b := by
              simp only [bestTo, bstep, unhide HE, unhide Ho, if_true]
              rw [if_neg (by omega)]
            have HBT := hide hbt
            clear hbt hm
            go_wp2_with fail
            go_quiet (fail)
            go_wp2_with fail
            go_quiet (fail)
            go_wp2_with fail
            go_roundg (n - (k + 1))
            case measure => omega
            case rel => exact ⟨k + 1, by omega, rfl, by go_num, by rw [unhide HBT]; rfl, by rw [unhide HBT]; exact bi_drewN (bi_alloc (unhide Hb) _) _⟩
    · obtain rfl : k = n := by omega
      have hkz : ¬ (k : Int) < (k : Int) := by omega
      have hq := hb.best
      have hr := hb.res
      have hsz := hb.size
      have hsz1 : w.heap.size + 1 < wr.heap.size := by omega
      have fz : ∀ j, wr.frozen? ⟨w.heap.size, j, none⟩ = false := fun j => frozen_of_row wr _ j _ _ hr
      have qc : ∀ j, wr.cell? ⟨w.heap.size + 1, j, none⟩ = (bestArr St Vp (bestTo E C I k))[j]? := fun j => cell_of_row wr _ j _ _ _ hq
      have rc : ∀ j, wr.cell? ⟨w.heap.size, j, none⟩ = (ansArr ⟨#[]⟩ ⟨#[]⟩ none)[j]? := fun j => cell_of_row wr _ j _ _ _ hr
      obtain ⟨ad, st, p, hbst⟩ : ∃ ad st p, bestArr St Vp (bestTo E C I k) = ansArr ad st p := by cases bestTo E C I k <;> exact ⟨_, _, _, rfl⟩
      rw [hbst] at qc
      have HB := hide hbst
      have q0 := qc 0
      have q1 := qc 1
      have q2 := qc 2
      have q3 := qc 3
      have q4 := qc 4
      have q5 := qc 5
      have q6 := qc 6
      have q7 := qc 7
      have r0 := rc 0
      have r1 := rc 1
      have r2 := rc 2
      have r3 := rc 3
      have r4 := rc 4
      have r5 := rc 5
      have r6 := rc 6
      have r7 := rc 7
      simp [ansArr] at q0 q1 q2 q3 q4 q5 q6 q7 r0 r1 r2 r3 r4 r5 r6 r7
      have Hb := hide hb
      clear qc rc hq hr hbst hb hA hE0 hE1 hV
      go_wp2
      refine bodyPost_ret (v := .tuple #[.agg (ansArr ad st p), .bool (bestTo E C I k).isSome]) ?_ rfl ⟨by rw [unhide HB], ?_⟩
      · simp [results, Try.results37, go_sem, ansArr, r0, r1, r2, r3, r4, r5, r6, r7]
      · have h := (unhide Hb).below
        refine Below.setCell (Below.setCell (Below.setCell (Below.setCell (Below.setCell (Below.setCell (Below.setCell (Below.setCell h ?_ _) ?_ _) ?_ _) ?_ _) ?_ _) ?_ _) ?_ _) ?_ _ <;> exact Nat.le_refl _
end Go.Proofs.Qxb6003791a.Bv
