import Derived.Test.Qxb6003791aNtZero
set_option linter.unusedVariables false
namespace Go.Proofs.Qxb6003791a.Nt
open Go.RowKit

set_option maxHeartbeats 400000 in
theorem newtab_any (a : Option Addr) (B m o n : Nat) (Ss : Nat → ByteArray) (me : ByteArray) (w : World) (hm : m ≤ 8) (ho1 : 1 ≤ o) (ho8 : o ≤ 8) (hn1 : n ≤ o) (hn2 : n ≤ m) (hn3 : n = o ∨ n = m)
    (ha : 0 < m → a = some ⟨B, 0, none⟩) (hV : ∀ i, i < m → w.cell? ⟨B, i, none⟩ = some (.string (Ss i))) (hS : ∀ i, i < m → (Ss i).size ≤ 1048576) :
    Calls Try.prog 29 #[.slice a m m, .string me, .int .i64 o] w fun e w' => e = .returned (.pointer (some ⟨w.heap.size + 1, 0, none⟩)) ∧ TabOk w w' a m n Ss me := by
  have hc : Calls Try.prog 40 #[.agg (viewArr a m), .string me, .int .i64 o] w fun e w' => e = .returned (.pointer (some ⟨w.heap.size + 1, 0, none⟩)) ∧ TabOk w w' a m n Ss me := by
    by_cases h0 : 0 < m
    · obtain rfl := ha h0
      exact table_any B m o n Ss me w h0 hm ho1 ho8 hn1 hn2 hn3 hV hS
    · obtain rfl : m = 0 := by omega
      obtain rfl : n = 0 := by omega
      exact table_zero a o Ss me w ho1 ho8
  unfold viewArr at hc
  have HC := hide hc
  clear hc ha hV hS hn3
  go_enter Try.func29, Try.ntmps29
  go_wp2_with fail
  refine (unhide HC).mono ?_
  rintro e w' ⟨rfl, ht⟩
  have HT := hide ht
  clear ht
  go_wp2
  go_ret
  exact ⟨rfl, unhide HT⟩

set_option maxHeartbeats 400000 in
theorem n_any (T : Nat) (n : Int) (w : World) (h : w.cell? ⟨T, 4, none⟩ = some (.int .i64 n)) :
    Calls Try.prog 30 #[.pointer (some ⟨T, 0, none⟩)] w fun e w' => e = .returned (.int .i64 n) ∧ w = w' := by
  go_enter Try.func30, Try.ntmps30
  go_wp2
  go_ret
  exact ⟨rfl, rfl⟩

set_option maxHeartbeats 400000 in
theorem self_any (T : Nat) (n : Int) (w : World) (h : w.cell? ⟨T, 3, none⟩ = some (.int .i64 n)) :
    Calls Try.prog 31 #[.pointer (some ⟨T, 0, none⟩)] w fun e w' => e = .returned (.int .i64 n) ∧ w = w' := by
  go_enter Try.func31, Try.ntmps31
  go_wp2
  go_ret
  exact ⟨rfl, rfl⟩

set_option maxHeartbeats 400000 in
theorem idx_any (T B m : Nat) (a : Option Addr) (Ss : Nat → ByteArray) (me : ByteArray) (w : World) (hm : m ≤ 8) (h : w.cell? ⟨T, 1, none⟩ = some (.slice a m m))
    (ha : 0 < m → a = some ⟨B, 0, none⟩) (hV : ∀ i, i < m → w.cell? ⟨B, i, none⟩ = some (.string (Ss i))) :
    Calls Try.prog 41 #[.pointer (some ⟨T, 0, none⟩), .string me] w fun e w' => e = .returned (.int .i64 (firstTo (isSelf Ss me) m)) ∧ w = w' := by
  go_enter Try.func41, Try.ntmps41
  go_wp2
  go_loop [12] (fun i => ∃ k : Nat, k ≤ m ∧ i = .int .i64 k ∧ ∀ j, j < k → isSelf Ss me j = false) (fun i => m - (intOf i).toNat)
  case atStart => exact ⟨0, Nat.zero_le _, rfl, fun j hj => absurd hj (by omega)⟩
  case round =>
    obtain ⟨k, hk, rfl, hno⟩ := hrel
    by_cases hlt : k < m
    · obtain rfl := ha (by omega)
      have hkz : (k : Int) < (m : Int) := by omega
      have g := hV k hlt
      have HNO := hide hno
      clear hno hV
      cases hq : ((Ss k).toList == me.toList) with
      | true =>
        have HF := hide (firstTo_hit (q := isSelf Ss me) (unhide HNO) (show isSelf Ss me k = true from hq) hlt)
        go_wp2
        go_ret
        exact ⟨by rw [unhide HF]; rfl, rfl⟩
      | false =>
        have HQ := hide (show isSelf Ss me k = false from hq)
        go_wp2
        go_round
        case rel => exact ⟨k + 1, by omega, by go_num, fun j hj => by
          by_cases e : j = k
          · subst e; exact unhide HQ
          · exact unhide HNO j (by omega)⟩
        case measure => simp [intOf]; omega
    · obtain rfl : m = k := by omega
      have HF := hide (firstTo_none hno)
      clear hno hV
      have hkz : ¬ (m : Int) < (m : Int) := by omega
      go_wp2
      go_ret
      exact ⟨by rw [unhide HF]; rfl, rfl⟩

set_option maxHeartbeats 400000 in
theorem zidx_any (T B m : Nat) (a : Option Addr) (Ss : Nat → ByteArray) (me : ByteArray) (w : World) (hm : m ≤ 8) (h : w.cell? ⟨T, 1, none⟩ = some (.slice a m m))
    (ha : 0 < m → a = some ⟨B, 0, none⟩) (hV : ∀ i, i < m → w.cell? ⟨B, i, none⟩ = some (.string (Ss i))) :
    Calls Try.prog 32 #[.pointer (some ⟨T, 0, none⟩), .string me] w fun e w' => e = .returned (.int .i64 (firstTo (isSelf Ss me) m)) ∧ w = w' := by
  have HC := hide (idx_any T B m a Ss me w hm h ha hV)
  clear h ha hV
  go_enter Try.func32, Try.ntmps32
  go_wp2_with (go_at_call 41; refine (unhide HC).mono ?_; rintro e w' ⟨rfl, rfl⟩)
  go_ret
  exact ⟨rfl, rfl⟩

set_option maxHeartbeats 1000000 in
theorem others_any (T m : Nat) (a : Option Addr) (s : Int) (w : World) (hm : m ≤ 8) (h1 : w.cell? ⟨T, 1, none⟩ = some (.slice a m m)) (h3 : w.cell? ⟨T, 3, none⟩ = some (.int .i64 s)) :
    Calls Try.prog 42 #[.pointer (some ⟨T, 0, none⟩)] w fun e w' => ∃ v, e = .returned v ∧ w'.ownsRow w.heap.size 3 1 v (oth s m).length ((oth s m).map (Value.int .i64)) ∧ Below w.heap.size w w' := by
  have hT : T < w.heap.size := World.block_lt_of_cell? _ _ h1
  obtain ⟨i0, hi, hz0, hz1, hz2⟩ := info_parts info3
  go_enter Try.func42, Try.ntmps42
  go_wp2
  go_loopw [3, 10] (fun v i wr => ∃ k : Nat, k ≤ m ∧ i = .int .i64 k ∧ wr.ownsRow w.heap.size 3 1 v (oth s k).length ((oth s k).map (Value.int .i64)) ∧ Below w.heap.size w wr) (fun _ i _ => m - (intOf i).toNat)
  case atStart => exact ⟨0, Nat.zero_le _, rfl, World.ownsRow_nil _ _ _ _, Below.refl _ _⟩
  case round =>
    obtain ⟨k, hk, rfl, hown, hb⟩ := hrel
    by_cases hlt : k < m
    · have hkz : (k : Int) < (m : Int) := by omega
      have g3 : wr.cell? ⟨T, 3, none⟩ = some (.int .i64 s) := by rw [hb.cell (p := ⟨T, 3, none⟩) hT]; exact h3
      by_cases hs : (k : Int) = s
      · have hsb : ((k : Int) != s) = false := by simp [hs]
        have HO : Hid (oth s (k + 1) = oth s k) := by show oth s (k + 1) = oth s k; simp [oth, hs]
        have HW := hide hown
        have HB := hide hb
        clear hs hown hb
        go_wp2
        go_roundw
        case rel => exact ⟨k + 1, by omega, by go_num, by rw [unhide HO]; exact unhide HW, unhide HB⟩
        case measure => simp [intOf]; omega
      · have hsb : ((k : Int) != s) = true := by simp [hs]
        have HO : Hid (oth s (k + 1) = oth s k ++ [(k : Int)]) := by show oth s (k + 1) = oth s k ++ [(k : Int)]; simp [oth, hs]
        have hle := oth_le s k
        have hsz := hb.size
        have HB := hide hb
        clear hs hb
        go_wp2_with (first | (at_builtin; refine wpList_append_own _ rfl _ _ 54 rfl w.heap.size 3 i0 (.int .i64 0) 1 8 Try.underlying54 hi hz0 hz1 hz2 rfl (by decide) _ _ _ rfl (hown.alloc _) ⟨wr.heap.size, 0, none⟩ 1 1 [.int .i64 k] rfl rfl ?c1 ?c2 ?c3 ?c4 ?c5 ?_) | go_in)
        case c1 =>
          intro j u hj
          match j, hj with
          | 0, hj => simp at hj; subst hj; simp [Addr.add]
        case c2 => intro u hu; simp at hu; subst hu; rfl
        case c3 => unfold maxLen; omega
        case c4 => omega
        case c5 => simp; omega
        · intro v' w1 hown' hgrow _
          have HB1 : Hid (Below w.heap.size w w1) := ((unhide HB).alloc hsz _).grown hgrow (by simp; omega) (fun q hq => (hown.lt q hq).1)
          have HW := hide hown'
          clear hown' hgrow hown
          go_wp2
          go_roundw
          case rel => exact ⟨k + 1, by omega, by go_num, by rw [unhide HO]; simpa using unhide HW, unhide HB1⟩
          case measure => simp [intOf]; omega
    · obtain rfl : m = k := by omega
      have hkz : ¬ (m : Int) < (m : Int) := by omega
      have HW := hide hown
      have HB := hide hb
      clear hown hb
      go_wp2
      go_ret
      exact ⟨_, rfl, unhide HW, unhide HB⟩

set_option maxHeartbeats 400000 in
theorem zothers_any (T m : Nat) (a : Option Addr) (s : Int) (w : World) (hm : m ≤ 8) (h1 : w.cell? ⟨T, 1, none⟩ = some (.slice a m m)) (h3 : w.cell? ⟨T, 3, none⟩ = some (.int .i64 s)) :
    Calls Try.prog 33 #[.pointer (some ⟨T, 0, none⟩)] w fun e w' => ∃ v, e = .returned v ∧ w'.ownsRow w.heap.size 3 1 v (oth s m).length ((oth s m).map (Value.int .i64)) ∧ Below w.heap.size w w' := by
  have HC := hide (others_any T m a s w hm h1 h3)
  clear h1 h3
  go_enter Try.func33, Try.ntmps33
  go_wp2_with fail
  refine (unhide HC).mono ?_
  rintro e w' ⟨v, rfl, ho, hb⟩
  have HO := hide ho
  have HB := hide hb
  clear ho hb
  go_wp2
  go_ret
  exact ⟨_, rfl, unhide HO, unhide HB⟩

/-- The owners of one part, as a slice value. -/
def OwnVal (OB n p : Nat) (v : Value) : Prop := ∃ A C, v = .slice A n C ∧ (0 < n → A = some ⟨OB, p * n, none⟩)

set_option maxHeartbeats 400000 in
theorem own_any (T OB n p : Nat) (w : World) (hn : n ≤ 8) (hlp : p < 4096) (h4 : w.cell? ⟨T, 4, none⟩ = some (.int .i64 n)) (h5 : w.cell? ⟨T, 5, none⟩ = some (.slice (some ⟨OB, 0, none⟩) (4096 * n) (4096 * n))) :
    Calls Try.prog 44 #[.pointer (some ⟨T, 0, none⟩), .int .i64 p] w fun e w' => ∃ v, e = .returned v ∧ OwnVal OB n p v ∧ ∃ q, w' = w.drewN q := by
  have hpz : (p : Int) < 4096 := by omega
  by_cases h0 : n = 0
  · subst h0
    simp at h4 h5
    go_enter Try.func44, Try.ntmps44
    go_wp2_with fail
    go_quiet (fail)
    go_wp2
    go_ret
    exact ⟨_, rfl, ⟨_, _, rfl, fun h => absurd h (by omega)⟩, _, rfl⟩
  · have b1 : p * n + n ≤ 4096 * n := by have := Nat.mul_le_mul_right n (show p + 1 ≤ 4096 from hlp); rw [Nat.succ_mul] at this; exact this
    have z1 : ((p : Int) + 1) * (n : Int) = (p : Int) * (n : Int) + (n : Int) := by rw [Int.add_mul, Int.one_mul]
    have z2 : (p : Int) * (n : Int) + (n : Int) ≤ 4096 * (n : Int) := by
      have e : (p : Int) * (n : Int) = ((p * n : Nat) : Int) := by simp
      rw [e]; omega
    have z3 : 0 ≤ (p : Int) * (n : Int) := Int.mul_nonneg (by omega) (by omega)
    have z4 : ((p : Int) * (n : Int)).toNat = p * n := by
      have e : (p : Int) * (n : Int) = ((p * n : Nat) : Int) := by simp
      rw [e]; omega
    have hne : ¬ 4096 * n = p * n := by omega
    have z5 : p * n + n - p * n = n := by omega
    have HV : Hid (OwnVal OB n p (.slice (some ⟨OB, p * n, none⟩) (p * n + n - p * n) (4096 * n - p * n))) := ⟨_, _, by rw [z5], fun _ => rfl⟩
    clear z5
    go_enter Try.func44, Try.ntmps44
    go_wp2_with fail
    go_quiet (fail)
    go_wp2
    go_ret
    exact ⟨_, rfl, unhide HV, _, rfl⟩

set_option maxHeartbeats 400000 in
theorem zown_any (T OB n p : Nat) (w : World) (hn : n ≤ 8) (hlp : p < 4096) (h4 : w.cell? ⟨T, 4, none⟩ = some (.int .i64 n)) (h5 : w.cell? ⟨T, 5, none⟩ = some (.slice (some ⟨OB, 0, none⟩) (4096 * n) (4096 * n))) :
    Calls Try.prog 35 #[.pointer (some ⟨T, 0, none⟩), .int .i64 p] w fun e w' => ∃ v, e = .returned v ∧ OwnVal OB n p v ∧ ∃ q, w' = w.drewN q := by
  have HC := hide (own_any T OB n p w hn hlp h4 h5)
  clear h4 h5
  go_enter Try.func35, Try.ntmps35
  go_wp2_with fail
  refine (unhide HC).mono ?_
  rintro e w' ⟨v, rfl, ho, q, rfl⟩
  have HO := hide ho
  clear ho
  go_wp2
  go_ret
  exact ⟨_, rfl, unhide HO, _, rfl⟩
end Go.Proofs.Qxb6003791a.Nt
