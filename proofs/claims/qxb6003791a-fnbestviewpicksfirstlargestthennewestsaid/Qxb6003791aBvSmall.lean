import Derived.Test.Qxb6003791aBvBest
namespace Go.Proofs.Qxb6003791a.Bv
open Go.RowKit

set_option maxHeartbeats 400000 in
theorem add_any (t x : Int) (w : World) (h0 : 0 ≤ t) (h1 : t ≤ 1048576) (h2 : 0 ≤ x) (h3 : x ≤ 1048576) :
    Calls Try.prog 8 #[.int .i64 t, .int .i64 x] w fun e w' => e = .returned (.int .i64 (t + x)) ∧ w = w' := by
  go_enter Try.func8, Try.ntmps8
  go_wp2
  go_ret
  exact ⟨rfl, rfl⟩

set_option maxHeartbeats 400000 in
theorem words_any (t n : Int) (w : World) (h0 : 0 ≤ t) (h1 : t ≤ 1048576) (h2 : 0 ≤ n) (h3 : n ≤ 4096) :
    Calls Try.prog 9 #[.int .i64 t, .int .i64 n] w fun e w' => e = .returned (.int .i64 (t + 8 * n)) ∧ w = w' := by
  go_enter Try.func9, Try.ntmps9
  go_wp2_with (go_at_call 8; refine (add_any _ _ _ (by omega) (by omega) (by omega) (by omega)).mono ?_; rintro e w' ⟨rfl, rfl⟩)
  go_ret
  exact ⟨rfl, rfl⟩

def stName (x : Int) : ByteArray := if x % 4 = 0 then ⟨#[109, 101, 109, 98, 101, 114]⟩ else if x % 4 = 1 then ⟨#[106, 111, 105, 110, 105, 110, 103]⟩ else if x % 4 = 2 then ⟨#[]⟩ else ⟨#[77, 101, 109, 98, 101, 114]⟩

set_option maxHeartbeats 400000 in
theorem name_any (x : Int) (w : World) (h0 : 0 ≤ x) (h1 : x ≤ 255) :
    Calls Try.prog 15 #[.int .u8 x, .string ⟨#[109, 101, 109, 98, 101, 114]⟩] w fun e w' => e = .returned (.string (stName x)) ∧ w = w' := by
  unfold stName
  by_cases c0 : x % 4 = 0
  · rw [if_pos c0]
    have b0 : (x % 4 == 0) = true := by simp [c0]
    clear c0
    go_enter Try.func15, Try.ntmps15
    go_wp2
    go_ret
    exact ⟨rfl, rfl⟩
  · rw [if_neg c0]
    have b0 : (x % 4 == 0) = false := by simp [c0]
    clear c0
    by_cases c1 : x % 4 = 1
    · rw [if_pos c1]
      have b1 : (x % 4 == 1) = true := by simp [c1]
      clear c1
      go_enter Try.func15, Try.ntmps15
      go_wp2
      go_ret
      exact ⟨rfl, rfl⟩
    · rw [if_neg c1]
      have b1 : (x % 4 == 1) = false := by simp [c1]
      clear c1
      by_cases c2 : x % 4 = 2
      · rw [if_pos c2]
        have b2 : (x % 4 == 2) = true := by simp [c2]
        clear c2
        go_enter Try.func15, Try.ntmps15
        go_wp2
        go_ret
        exact ⟨rfl, rfl⟩
      · rw [if_neg c2]
        have b2 : (x % 4 == 2) = false := by simp [c2]
        clear c2
        go_enter Try.func15, Try.ntmps15
        go_wp2
        go_ret
        exact ⟨rfl, rfl⟩

set_option maxHeartbeats 400000 in
theorem make_any (a s : ByteArray) (p : Option Addr) (w : World) :
    Calls Try.prog 14 #[.string a, .string s, .pointer p] w fun e w' => e = .returned (.agg (ansArr a s p)) ∧ w' = w.alloc (.cells (ansArr a s p) 46) := by
  go_enter Try.func14, Try.ntmps14
  go_wp2
  refine bodyPost_ret (v := .agg (ansArr a s p)) ?_ rfl ⟨rfl, rfl⟩
  simp [results, Try.results14, go_sem, ansArr]

set_option maxHeartbeats 400000 in
theorem view_any (a s : ByteArray) (p : Option Addr) (w : World) :
    Calls Try.prog 17 #[.agg (ansArr a s p)] w fun e w' => e = .returned (.pointer p) ∧ w' = w.alloc (.cells (ansArr a s p) 46) := by
  unfold ansArr
  go_enter Try.func17, Try.ntmps17
  go_wp2
  go_ret
  exact ⟨rfl, rfl⟩

set_option maxHeartbeats 400000 in
theorem member_any (w : World) : Calls Try.prog 13 #[] w fun e w' => e = .returned (.string ⟨#[109, 101, 109, 98, 101, 114]⟩) ∧ w = w' := by
  go_enter Try.func13, Try.ntmps13
  go_wp2
  go_ret
  exact ⟨rfl, rfl⟩

set_option maxHeartbeats 400000 in
theorem zbest_any (A V n : Nat) (St : Nat → ByteArray) (Vp Ms : Nat → Option Addr) (E : Nat → Bool) (C : Nat → Nat) (I : Nat → Int) (w : World) (hn : n ≤ 1024)
    (hA : ∀ i, i < n → w.rangeAt A (i * 8) (ansArr ⟨#[97]⟩ (St i) (Vp i)).toList)
    (hE1 : ∀ i, i < n → E i = true → St i = ⟨#[109, 101, 109, 98, 101, 114]⟩ ∧ Vp i = some ⟨V, i * 5, none⟩)
    (hE0 : ∀ i, i < n → E i = false → ¬ (St i).toList = [109, 101, 109, 98, 101, 114] ∨ Vp i = none)
    (hV : ∀ i, i < n → w.cell? ⟨V, i * 5 + 1, none⟩ = some (.int .u64 (I i)) ∧ w.cell? ⟨V, i * 5 + 2, none⟩ = some (.slice (Ms i) (C i) (C i))) :
    Calls Try.prog 16 #[.slice (some ⟨A, 0, none⟩) n n] w fun e w' => e = .returned (.tuple #[.agg (bestArr St Vp (bestTo E C I n)), .bool (bestTo E C I n).isSome]) ∧ Below w.heap.size w w' := by
  have hc := best_any A V n St Vp Ms E C I (w.alloc (.cells (ansArr ⟨#[]⟩ ⟨#[]⟩ none) 46)) hn (fun i hi => World.rangeAt_alloc (hA i hi) _) hE1 hE0 (fun i hi => by
    have hVl : V < w.heap.size := World.block_lt_of_cell? _ _ (hV i hi).1
    exact ⟨by rw [World.cell?_alloc_past _ _ _ hVl]; exact (hV i hi).1, by rw [World.cell?_alloc_past _ _ _ hVl]; exact (hV i hi).2⟩)
  unfold ansArr at hc
  have Hc := hide hc
  clear hc hA hE1 hE0 hV
  go_enter Try.func16, Try.ntmps16
  go_wp2_with fail
  refine (unhide Hc).mono ?_
  rintro e w' ⟨rfl, hb⟩
  obtain ⟨ad, st, p, hbst⟩ : ∃ ad st p, bestArr St Vp (bestTo E C I n) = ansArr ad st p := by cases bestTo E C I n <;> exact ⟨_, _, _, rfl⟩
  have HB := hide hbst
  rw [hbst, ansArr]
  clear hbst
  have e0 := fun j => hb.cell (p := ⟨w.heap.size, j, none⟩) (by simp)
  have f0 := fun j => hb.frozen (p := ⟨w.heap.size, j, none⟩) (by simp)
  have hbel : Below w.heap.size w w' := ((Below.refl _ w).alloc (Nat.le_refl _) _).trans (hb.mono (by simp))
  have HBL := hide hbel
  clear hb hbel
  simp at e0 f0
  go_wp2
  refine bodyPost_ret (v := .tuple #[.agg (ansArr ad st p), .bool (bestTo E C I n).isSome]) ?_ rfl ⟨by rw [unhide HB], ?_⟩
  · simp [results, Try.results16, go_sem, ansArr, e0]
  · have h := unhide HBL
    refine Below.setCell (Below.setCell (Below.setCell (Below.setCell (Below.setCell (Below.setCell (Below.setCell (Below.setCell h ?_ _) ?_ _) ?_ _) ?_ _) ?_ _) ?_ _) ?_ _) ?_ _ <;> exact Nat.le_refl _
end Go.Proofs.Qxb6003791a.Bv
