import Derived.Test.Qxb6003791aRows
import Derived.WalkKit
import Derived.Deep.OwnRows
import Derived.Deep.LoopGhost
import Derived.WalkSpells
namespace Go.Proofs.Qxb6003791a.Bv
open Go.RowKit

theorem hide {p : Prop} (h : p) : Hid p := h
theorem unhide {p : Prop} (h : Hid p) : p := h

theorem info5 : (Try.prog.info? 5).map (fun i => (i.zero, i.size, i.bytes)) = some (some (.int .u8 0), 1, 1) := by kernel_rfl
theorem info4 : (Try.prog.info? 4).map (fun i => (i.zero, i.size, i.bytes)) = some (some (.bool false), 1, 1) := by kernel_rfl
theorem info34 : (Try.prog.info? 34).map (fun i => (i.zero, i.size, i.bytes)) = some (some (.int .u64 0), 1, 8) := by kernel_rfl

set_option maxHeartbeats 400000 in
theorem bytes_any (a0 a1 a2 a3 : Option Addr) (l0 l1 l2 l3 c0 c1 c2 c3 : Nat) (w : World)
    (h0 : l0 ≤ 9223372036854775807) (h1 : l1 ≤ 9223372036854775807) (h2 : l2 ≤ 9223372036854775807) (h3 : l3 ≤ 9223372036854775807) :
    Calls Try.prog 7 #[.slice a0 l0 c0, .slice a1 l1 c1, .slice a2 l2 c2, .slice a3 l3 c3] w fun e w' => e = .returned (.bool (decide (l0 + l1 + l2 + l3 ≤ 1048576))) ∧ w = w' := by
  by_cases q0 : l0 ≤ 1048576
  · by_cases q1 : l0 + l1 ≤ 1048576
    · by_cases q2 : l0 + l1 + l2 ≤ 1048576
      · by_cases q3 : l0 + l1 + l2 + l3 ≤ 1048576
        · rw [decide_eq_true q3]
          go_enter Try.func7, Try.ntmps7
          go_wp2
          go_ret
          exact ⟨rfl, rfl⟩
        · rw [decide_eq_false q3]
          go_enter Try.func7, Try.ntmps7
          go_wp2
          all_goals (go_ret; exact ⟨rfl, rfl⟩)
      · rw [decide_eq_false (by omega)]
        go_enter Try.func7, Try.ntmps7
        go_wp2
        all_goals (go_ret; exact ⟨rfl, rfl⟩)
    · rw [decide_eq_false (by omega)]
      go_enter Try.func7, Try.ntmps7
      go_wp2
      all_goals (go_ret; exact ⟨rfl, rfl⟩)
  · rw [decide_eq_false (by omega)]
    go_enter Try.func7, Try.ntmps7
    go_wp2
    all_goals (go_ret; exact ⟨rfl, rfl⟩)

/-- WHAT A CLONE HOLDS, k cells copied. -/
theorem clone10_step {w wr : World} {len k : Nat} {Z : Nat → Int} (hs : wr.heap.size = w.heap.size + 1) (hb : Below w.heap.size w wr)
    (hr : wr.rowIs w.heap.size 5 len (fun i => if i < k then .int .u8 (Z i) else .int .u8 0)) :
    (wr.setCell ⟨w.heap.size, k, none⟩ (.int .u8 (Z k))).heap.size = w.heap.size + 1 ∧ Below w.heap.size w (wr.setCell ⟨w.heap.size, k, none⟩ (.int .u8 (Z k))) ∧
    (wr.setCell ⟨w.heap.size, k, none⟩ (.int .u8 (Z k))).rowIs w.heap.size 5 len (fun i => if i < k + 1 then .int .u8 (Z i) else .int .u8 0) := by
  refine ⟨by simp [World.setCell, hs], hb.setCell (Nat.le_refl _) _, (hr.set k _).congr (fun j _ => ?_)⟩
  by_cases ej : j = k
  · subst ej; simp
  · rw [if_neg ej]
    by_cases hlt : j < k
    · rw [if_pos hlt, if_pos (by omega)]
    · rw [if_neg hlt, if_neg (by omega)]

set_option maxHeartbeats 400000 in
theorem clone10_some (x : Addr) (b off len cap : Nat) (Z : Nat → Int) (w : World) (hl : len ≤ 1048576) (hx : 0 < len → x = ⟨b, off, none⟩)
    (hV : ∀ i, i < len → w.cell? ⟨b, off + i, none⟩ = some (.int .u8 (Z i))) :
    Calls Try.prog 10 #[.slice (some x) len cap] w fun e w' => e = .returned (.slice (some ⟨w.heap.size, 0, none⟩) len len) ∧ Below w.heap.size w w' ∧ w'.heap.size = w.heap.size + 1 ∧ w'.rowIs w.heap.size 5 len (fun i => .int .u8 (Z i)) := by
  have hmk := run_make_row' (P := Try.prog) 22 5 (.int .u8 0) 1 Try.underlying22 info5 rfl .i64 .i64 len (by omega) (by omega)
  have hnil := fun w a n c => Lib.run_eql_slice_nil (P := Try.prog) w 22 5 a n c 0 0 Try.underlying22
  go_enter Try.func10, Try.ntmps10
  go_wp2
  clear hmk hnil
  go_loopg [4] len (fun g i wr => ∃ k : Nat, k ≤ len ∧ g = len - k ∧ i = .int .i64 k ∧ wr.heap.size = w.heap.size + 1 ∧ Below w.heap.size w wr ∧ wr.rowIs w.heap.size 5 len (fun i => if i < k then .int .u8 (Z i) else .int .u8 0))
  case atStart => exact ⟨0, Nat.zero_le _, rfl, rfl, by simp, (Below.refl _ _).alloc (Nat.le_refl _) _, (World.rowIs_made w _ len 5).congr (fun j _ => by simp)⟩
  case round =>
    obtain ⟨k, hk, rfl, rfl, hs, hb, hr⟩ := hrel
    by_cases hlt : k < len
    · obtain rfl := hx (by omega)
      have hkz : (k : Int) < (len : Int) := by omega
      have hbl : b < w.heap.size := World.block_lt_of_cell? _ _ (hV k hlt)
      have g0 : wr.cell? ⟨b, off + k, none⟩ = some (.int .u8 (Z k)) := by rw [hb.cell (p := ⟨b, off + k, none⟩) hbl]; exact hV k hlt
      have g1 : wr.cell? ⟨w.heap.size, k, none⟩ = some (.int .u8 0) := by simpa using hr.cell hlt
      have g2 : wr.frozen? ⟨w.heap.size, k, none⟩ = false := hr.frozen k
      have R := clone10_step hs hb hr
      clear hs hb hr hV
      go_wp2
      go_roundg (len - (k + 1))
      case measure => omega
      case rel => exact ⟨k + 1, by omega, rfl, by go_num, R.1, R.2.1, R.2.2⟩
    · have hkz : ¬ (k : Int) < (len : Int) := by omega
      have R := hr.congr (g := fun i => .int .u8 (Z i)) (fun i hi => by rw [if_pos (by omega)])
      clear hr hV
      go_wp2
      go_ret
      exact ⟨rfl, hb, hs, R⟩

set_option maxHeartbeats 400000 in
theorem clone10_none (w : World) : Calls Try.prog 10 #[.slice none 0 0] w fun e w' => e = .returned (.slice none 0 0) ∧ w = w' := by
  have hnil := fun w a n c => Lib.run_eql_slice_nil (P := Try.prog) w 22 5 a n c 0 0 Try.underlying22
  go_enter Try.func10, Try.ntmps10
  go_wp2
  go_ret
  exact ⟨rfl, rfl⟩

theorem clone10_any (a : Option Addr) (b off len cap : Nat) (Z : Nat → Int) (w : World) (hl : len ≤ 1048576) (hn : a = none → len = 0 ∧ cap = 0) (ha : 0 < len → a = some ⟨b, off, none⟩)
    (hV : ∀ i, i < len → w.cell? ⟨b, off + i, none⟩ = some (.int .u8 (Z i))) :
    Calls Try.prog 10 #[.slice a len cap] w fun e w' => ∃ a', e = .returned (.slice a' len len) ∧ Below w.heap.size w w' ∧ (0 < len → a' = some ⟨w.heap.size, 0, none⟩ ∧ w'.rowIs w.heap.size 5 len (fun i => .int .u8 (Z i))) := by
  cases a with
  | none =>
    obtain ⟨rfl, rfl⟩ := hn rfl
    refine (clone10_none w).mono ?_
    rintro e w' ⟨rfl, rfl⟩
    exact ⟨none, rfl, Below.refl _ _, fun h => absurd h (Nat.not_lt_zero _)⟩
  | some x =>
    refine (clone10_some x b off len cap Z w hl (fun h => Option.some.inj (ha h)) hV).mono ?_
    rintro e w' ⟨rfl, hb, _, hr⟩
    exact ⟨_, rfl, hb, fun _ => ⟨rfl, hr⟩⟩

/-- WHAT A CLONE HOLDS, k cells copied. -/
theorem clone11_step {w wr : World} {len k : Nat} {Z : Nat → Bool} (hs : wr.heap.size = w.heap.size + 1) (hb : Below w.heap.size w wr)
    (hr : wr.rowIs w.heap.size 4 len (fun i => if i < k then .bool (Z i) else .bool false)) :
    (wr.setCell ⟨w.heap.size, k, none⟩ (.bool (Z k))).heap.size = w.heap.size + 1 ∧ Below w.heap.size w (wr.setCell ⟨w.heap.size, k, none⟩ (.bool (Z k))) ∧
    (wr.setCell ⟨w.heap.size, k, none⟩ (.bool (Z k))).rowIs w.heap.size 4 len (fun i => if i < k + 1 then .bool (Z i) else .bool false) := by
  refine ⟨by simp [World.setCell, hs], hb.setCell (Nat.le_refl _) _, (hr.set k _).congr (fun j _ => ?_)⟩
  by_cases ej : j = k
  · subst ej; simp
  · rw [if_neg ej]
    by_cases hlt : j < k
    · rw [if_pos hlt, if_pos (by omega)]
    · rw [if_neg hlt, if_neg (by omega)]

set_option maxHeartbeats 400000 in
theorem clone11_some (x : Addr) (b off len cap : Nat) (Z : Nat → Bool) (w : World) (hl : len ≤ 1048576) (hx : 0 < len → x = ⟨b, off, none⟩)
    (hV : ∀ i, i < len → w.cell? ⟨b, off + i, none⟩ = some (.bool (Z i))) :
    Calls Try.prog 11 #[.slice (some x) len cap] w fun e w' => e = .returned (.slice (some ⟨w.heap.size, 0, none⟩) len len) ∧ Below w.heap.size w w' ∧ w'.heap.size = w.heap.size + 1 ∧ w'.rowIs w.heap.size 4 len (fun i => .bool (Z i)) := by
  have hmk := run_make_row' (P := Try.prog) 23 4 (.bool false) 1 Try.underlying23 info4 rfl .i64 .i64 len (by omega) (by omega)
  have hnil := fun w a n c => Lib.run_eql_slice_nil (P := Try.prog) w 23 4 a n c 0 0 Try.underlying23
  go_enter Try.func11, Try.ntmps11
  go_wp2
  clear hmk hnil
  go_loopg [4] len (fun g i wr => ∃ k : Nat, k ≤ len ∧ g = len - k ∧ i = .int .i64 k ∧ wr.heap.size = w.heap.size + 1 ∧ Below w.heap.size w wr ∧ wr.rowIs w.heap.size 4 len (fun i => if i < k then .bool (Z i) else .bool false))
  case atStart => exact ⟨0, Nat.zero_le _, rfl, rfl, by simp, (Below.refl _ _).alloc (Nat.le_refl _) _, (World.rowIs_made w _ len 4).congr (fun j _ => by simp)⟩
  case round =>
    obtain ⟨k, hk, rfl, rfl, hs, hb, hr⟩ := hrel
    by_cases hlt : k < len
    · obtain rfl := hx (by omega)
      have hkz : (k : Int) < (len : Int) := by omega
      have hbl : b < w.heap.size := World.block_lt_of_cell? _ _ (hV k hlt)
      have g0 : wr.cell? ⟨b, off + k, none⟩ = some (.bool (Z k)) := by rw [hb.cell (p := ⟨b, off + k, none⟩) hbl]; exact hV k hlt
      have g1 : wr.cell? ⟨w.heap.size, k, none⟩ = some (.bool false) := by simpa using hr.cell hlt
      have g2 : wr.frozen? ⟨w.heap.size, k, none⟩ = false := hr.frozen k
      have R := clone11_step hs hb hr
      clear hs hb hr hV
      go_wp2
      go_roundg (len - (k + 1))
      case measure => omega
      case rel => exact ⟨k + 1, by omega, rfl, by go_num, R.1, R.2.1, R.2.2⟩
    · have hkz : ¬ (k : Int) < (len : Int) := by omega
      have R := hr.congr (g := fun i => .bool (Z i)) (fun i hi => by rw [if_pos (by omega)])
      clear hr hV
      go_wp2
      go_ret
      exact ⟨rfl, hb, hs, R⟩

set_option maxHeartbeats 400000 in
theorem clone11_none (w : World) : Calls Try.prog 11 #[.slice none 0 0] w fun e w' => e = .returned (.slice none 0 0) ∧ w = w' := by
  have hnil := fun w a n c => Lib.run_eql_slice_nil (P := Try.prog) w 23 4 a n c 0 0 Try.underlying23
  go_enter Try.func11, Try.ntmps11
  go_wp2
  go_ret
  exact ⟨rfl, rfl⟩

theorem clone11_any (a : Option Addr) (b off len cap : Nat) (Z : Nat → Bool) (w : World) (hl : len ≤ 1048576) (hn : a = none → len = 0 ∧ cap = 0) (ha : 0 < len → a = some ⟨b, off, none⟩)
    (hV : ∀ i, i < len → w.cell? ⟨b, off + i, none⟩ = some (.bool (Z i))) :
    Calls Try.prog 11 #[.slice a len cap] w fun e w' => ∃ a', e = .returned (.slice a' len len) ∧ Below w.heap.size w w' ∧ (0 < len → a' = some ⟨w.heap.size, 0, none⟩ ∧ w'.rowIs w.heap.size 4 len (fun i => .bool (Z i))) := by
  cases a with
  | none =>
    obtain ⟨rfl, rfl⟩ := hn rfl
    refine (clone11_none w).mono ?_
    rintro e w' ⟨rfl, rfl⟩
    exact ⟨none, rfl, Below.refl _ _, fun h => absurd h (Nat.not_lt_zero _)⟩
  | some x =>
    refine (clone11_some x b off len cap Z w hl (fun h => Option.some.inj (ha h)) hV).mono ?_
    rintro e w' ⟨rfl, hb, _, hr⟩
    exact ⟨_, rfl, hb, fun _ => ⟨rfl, hr⟩⟩

/-- WHAT A CLONE HOLDS, k cells copied. -/
theorem clone12_step {w wr : World} {len k : Nat} {Z : Nat → Int} (hs : wr.heap.size = w.heap.size + 1) (hb : Below w.heap.size w wr)
    (hr : wr.rowIs w.heap.size 34 len (fun i => if i < k then .int .u64 (Z i) else .int .u64 0)) :
    (wr.setCell ⟨w.heap.size, k, none⟩ (.int .u64 (Z k))).heap.size = w.heap.size + 1 ∧ Below w.heap.size w (wr.setCell ⟨w.heap.size, k, none⟩ (.int .u64 (Z k))) ∧
    (wr.setCell ⟨w.heap.size, k, none⟩ (.int .u64 (Z k))).rowIs w.heap.size 34 len (fun i => if i < k + 1 then .int .u64 (Z i) else .int .u64 0) := by
  refine ⟨by simp [World.setCell, hs], hb.setCell (Nat.le_refl _) _, (hr.set k _).congr (fun j _ => ?_)⟩
  by_cases ej : j = k
  · subst ej; simp
  · rw [if_neg ej]
    by_cases hlt : j < k
    · rw [if_pos hlt, if_pos (by omega)]
    · rw [if_neg hlt, if_neg (by omega)]

set_option maxHeartbeats 400000 in
theorem clone12_some (x : Addr) (b off len cap : Nat) (Z : Nat → Int) (w : World) (hl : len ≤ 1048576) (hx : 0 < len → x = ⟨b, off, none⟩)
    (hV : ∀ i, i < len → w.cell? ⟨b, off + i, none⟩ = some (.int .u64 (Z i))) :
    Calls Try.prog 12 #[.slice (some x) len cap] w fun e w' => e = .returned (.slice (some ⟨w.heap.size, 0, none⟩) len len) ∧ Below w.heap.size w w' ∧ w'.heap.size = w.heap.size + 1 ∧ w'.rowIs w.heap.size 34 len (fun i => .int .u64 (Z i)) := by
  have hmk := run_make_row' (P := Try.prog) 24 34 (.int .u64 0) 8 Try.underlying24 info34 rfl .i64 .i64 len (by omega) (by omega)
  have hnil := fun w a n c => Lib.run_eql_slice_nil (P := Try.prog) w 24 34 a n c 0 0 Try.underlying24
  go_enter Try.func12, Try.ntmps12
  go_wp2
  clear hmk hnil
  go_loopg [4] len (fun g i wr => ∃ k : Nat, k ≤ len ∧ g = len - k ∧ i = .int .i64 k ∧ wr.heap.size = w.heap.size + 1 ∧ Below w.heap.size w wr ∧ wr.rowIs w.heap.size 34 len (fun i => if i < k then .int .u64 (Z i) else .int .u64 0))
  case atStart => exact ⟨0, Nat.zero_le _, rfl, rfl, by simp, (Below.refl _ _).alloc (Nat.le_refl _) _, (World.rowIs_made w _ len 34).congr (fun j _ => by simp)⟩
  case round =>
    obtain ⟨k, hk, rfl, rfl, hs, hb, hr⟩ := hrel
    by_cases hlt : k < len
    · obtain rfl := hx (by omega)
      have hkz : (k : Int) < (len : Int) := by omega
      have hbl : b < w.heap.size := World.block_lt_of_cell? _ _ (hV k hlt)
      have g0 : wr.cell? ⟨b, off + k, none⟩ = some (.int .u64 (Z k)) := by rw [hb.cell (p := ⟨b, off + k, none⟩) hbl]; exact hV k hlt
      have g1 : wr.cell? ⟨w.heap.size, k, none⟩ = some (.int .u64 0) := by simpa using hr.cell hlt
      have g2 : wr.frozen? ⟨w.heap.size, k, none⟩ = false := hr.frozen k
      have R := clone12_step hs hb hr
      clear hs hb hr hV
      go_wp2
      go_roundg (len - (k + 1))
      case measure => omega
      case rel => exact ⟨k + 1, by omega, rfl, by go_num, R.1, R.2.1, R.2.2⟩
    · have hkz : ¬ (k : Int) < (len : Int) := by omega
      have R := hr.congr (g := fun i => .int .u64 (Z i)) (fun i hi => by rw [if_pos (by omega)])
      clear hr hV
      go_wp2
      go_ret
      exact ⟨rfl, hb, hs, R⟩

set_option maxHeartbeats 400000 in
theorem clone12_none (w : World) : Calls Try.prog 12 #[.slice none 0 0] w fun e w' => e = .returned (.slice none 0 0) ∧ w = w' := by
  have hnil := fun w a n c => Lib.run_eql_slice_nil (P := Try.prog) w 24 34 a n c 0 0 Try.underlying24
  go_enter Try.func12, Try.ntmps12
  go_wp2
  go_ret
  exact ⟨rfl, rfl⟩

theorem clone12_any (a : Option Addr) (b off len cap : Nat) (Z : Nat → Int) (w : World) (hl : len ≤ 1048576) (hn : a = none → len = 0 ∧ cap = 0) (ha : 0 < len → a = some ⟨b, off, none⟩)
    (hV : ∀ i, i < len → w.cell? ⟨b, off + i, none⟩ = some (.int .u64 (Z i))) :
    Calls Try.prog 12 #[.slice a len cap] w fun e w' => ∃ a', e = .returned (.slice a' len len) ∧ Below w.heap.size w w' ∧ (0 < len → a' = some ⟨w.heap.size, 0, none⟩ ∧ w'.rowIs w.heap.size 34 len (fun i => .int .u64 (Z i))) := by
  cases a with
  | none =>
    obtain ⟨rfl, rfl⟩ := hn rfl
    refine (clone12_none w).mono ?_
    rintro e w' ⟨rfl, rfl⟩
    exact ⟨none, rfl, Below.refl _ _, fun h => absurd h (Nat.not_lt_zero _)⟩
  | some x =>
    refine (clone12_some x b off len cap Z w hl (fun h => Option.some.inj (ha h)) hV).mono ?_
    rintro e w' ⟨rfl, hb, _, hr⟩
    exact ⟨_, rfl, hb, fun _ => ⟨rfl, hr⟩⟩

end Go.Proofs.Qxb6003791a.Bv
