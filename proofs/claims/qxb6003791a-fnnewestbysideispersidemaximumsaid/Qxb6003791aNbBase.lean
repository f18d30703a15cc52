import Derived.Test.Qxb6003791aNbPlain
import Derived.WalkKit
import Derived.Deep.OwnRows
import Derived.Deep.LoopGhost
import Derived.Deep.MidRow
import Derived.Deep.QuietTactic
import Derived.BigQuiet
import Derived.WalkSpells
set_option linter.unusedVariables false
namespace Go.Proofs.Qxb6003791a.Nb
open Go.RowKit

theorem hide {p : Prop} (h : p) : Hid p := h
theorem unhide {p : Prop} (h : Hid p) : p := h

theorem info34 : (Try.prog.info? 34).map (fun i => (i.zero, i.size, i.bytes)) = some (some (.int .u64 0), 1, 8) := by kernel_rfl
theorem info3 : (Try.prog.info? 3).map (fun i => (i.zero, i.size, i.bytes)) = some (some (.int .i64 0), 1, 8) := by kernel_rfl
theorem info24 : (Try.prog.info? 24).map (fun i => (i.zero, i.size, i.bytes)) = some (some (.slice none 0 0), 1, 24) := by kernel_rfl

/-- The ending is a Bool of which p holds (behind a name, so that the walk does not take it apart). -/
def Answers (p : Bool → Prop) (e : Ending) : Prop := ∃ bv, e = .returned (.bool bv) ∧ p bv
def BOk (l m : Nat) (L : Nat → Nat) (bv : Bool) : Prop := bv = true → l ≤ 1048576 ∧ m ≤ 1048576 ∧ ∀ i, i < m → L i ≤ 1048576
theorem bok_false {l m : Nat} {L : Nat → Nat} : BOk l m L false := fun h => by cases h
theorem answers {p : Bool → Prop} {e : Ending} (bv : Bool) (he : e = .returned (.bool bv)) (h : p bv) : Answers p e := ⟨bv, he, h⟩

set_option maxHeartbeats 400000 in
theorem bytes_any (a0 : Option Addr) (l c0 : Nat) (self kk : Int) (a : Option Addr) (b off m cap : Nat) (A : Nat → Option Addr) (L C : Nat → Nat) (w : World) (hl : l ≤ 9223372036854775807) (hm : m ≤ 9223372036854775807)
    (ha : 0 < m → a = some ⟨b, off, none⟩) (hV : ∀ i, i < m → w.cell? ⟨b, off + i, none⟩ = some (.slice (A i) (L i) (C i))) (hL : ∀ i, i < m → L i ≤ 9223372036854775807) :
    Calls Try.prog 20 #[.slice a0 l c0, .int .i64 self, .slice a m cap, .int .i64 kk] w fun e w' => w = w' ∧ Answers (BOk l m L) e := by
  by_cases h0 : l ≤ 1048576
  · by_cases h1 : l + m ≤ 1048576
    · go_enter Try.func20, Try.ntmps20
      go_wp2
      go_loop [9, 10] (fun t i => ∃ k : Nat, k ≤ m ∧ i = .int .i64 k ∧ (∃ x : Int, t = .int .i64 x ∧ 0 ≤ x ∧ x ≤ 1048576) ∧ ∀ j, j < k → L j ≤ 1048576) (fun _ i => m - (intOf i).toNat)
      case atStart => exact ⟨0, Nat.zero_le _, rfl, ⟨l + m, by simp, by omega, by omega⟩, fun j hj => absurd hj (by omega)⟩
      case round =>
        obtain ⟨k, hk, rfl, ⟨x, rfl, hx0, hx1⟩, hall⟩ := hrel
        by_cases hlt : k < m
        · obtain rfl := ha (by omega)
          have g := hV k hlt
          have gs := hL k hlt
          have HA := hide hall
          clear hall hL hV
          by_cases hbig : L k ≤ 1048576
          · by_cases hsum : x + L k ≤ 1048576
            · go_wp2
              go_round
              case rel => exact ⟨k + 1, by omega, by go_num, ⟨x + L k, rfl, by omega, by omega⟩, fun j hj => by
                by_cases e : j = k
                · subst e; exact hbig
                · exact unhide HA j (by omega)⟩
              case measure => simp [intOf]; omega
            · go_wp2
              go_ret
              exact ⟨rfl, answers false rfl bok_false⟩
          · go_wp2
            go_ret
            exact ⟨rfl, answers false rfl bok_false⟩
        · have HA := hide (show ∀ j, j < m → L j ≤ 1048576 from fun j hj => hall j (by omega))
          clear hall
          go_wp2
          go_ret
          exact ⟨rfl, answers true rfl (fun _ => ⟨h0, by omega, unhide HA⟩)⟩
    · go_enter Try.func20, Try.ntmps20
      go_wp2
      all_goals (go_ret; exact ⟨rfl, answers false rfl bok_false⟩)
  · go_enter Try.func20, Try.ntmps20
    go_wp2
    go_ret
    exact ⟨rfl, answers false rfl bok_false⟩

set_option maxHeartbeats 400000 in
theorem mbytes_any (a : Option Addr) (b off m cap : Nat) (A : Nat → Option Addr) (L C : Nat → Nat) (w : World) (hm : m ≤ 1048576)
    (ha : 0 < m → a = some ⟨b, off, none⟩) (hV : ∀ i, i < m → w.cell? ⟨b, off + i, none⟩ = some (.slice (A i) (L i) (C i))) (hL : ∀ i, i < m → L i ≤ 1048576) :
    Calls Try.prog 21 #[.slice a m cap] w fun e w' => ∃ t : Int, e = .returned (.int .i64 t) ∧ w = w' ∧ 0 ≤ t ∧ t ≤ 50000000 := by
  go_enter Try.func21, Try.ntmps21
  go_wp2
  go_loop [3, 4] (fun t i => ∃ k : Nat, k ≤ m ∧ i = .int .i64 k ∧ ∃ x : Int, t = .int .i64 x ∧ 0 ≤ x ∧ x ≤ 33554432) (fun _ i => m - (intOf i).toNat)
  case atStart => exact ⟨0, Nat.zero_le _, rfl, 24 * m, rfl, by omega, by omega⟩
  case round =>
    obtain ⟨k, hk, rfl, x, rfl, hx0, hx1⟩ := hrel
    by_cases hlt : k < m
    · obtain rfl := ha (by omega)
      have g := hV k hlt
      have gs := hL k hlt
      clear hV hL
      by_cases hsum : x + 8 * L k ≤ 2097152
      · go_wp2
        go_round
        case rel => exact ⟨k + 1, by omega, by go_num, x + 8 * L k, rfl, by omega, by omega⟩
        case measure => simp [intOf]; omega
      · go_wp2
        go_ret
        exact ⟨x + 8 * L k, rfl, rfl, by omega, by omega⟩
    · go_wp2
      go_ret
      exact ⟨x, rfl, rfl, by omega, by omega⟩

/-- WHAT A CLONE HOLDS, k cells copied. -/
theorem clone22_step {w wr : World} {len k : Nat} {Z : Nat → Int} (hs : wr.heap.size = w.heap.size + 1) (hb : Below w.heap.size w wr)
    (hr : wr.rowIs w.heap.size 3 len (fun i => if i < k then .int .i64 (Z i) else .int .i64 0)) :
    (wr.setCell ⟨w.heap.size, k, none⟩ (.int .i64 (Z k))).heap.size = w.heap.size + 1 ∧ Below w.heap.size w (wr.setCell ⟨w.heap.size, k, none⟩ (.int .i64 (Z k))) ∧
    (wr.setCell ⟨w.heap.size, k, none⟩ (.int .i64 (Z k))).rowIs w.heap.size 3 len (fun i => if i < k + 1 then .int .i64 (Z i) else .int .i64 0) := by
  refine ⟨by simp [World.setCell, hs], hb.setCell (Nat.le_refl _) _, (hr.set k _).congr (fun j _ => ?_)⟩
  by_cases ej : j = k
  · subst ej; simp
  · rw [if_neg ej]
    by_cases hlt : j < k
    · rw [if_pos hlt, if_pos (by omega)]
    · rw [if_neg hlt, if_neg (by omega)]

set_option maxHeartbeats 400000 in
theorem clone22_some (x : Addr) (b off len cap : Nat) (Z : Nat → Int) (w : World) (hl : len ≤ 1048576) (hx : 0 < len → x = ⟨b, off, none⟩)
    (hV : ∀ i, i < len → w.cell? ⟨b, off + i, none⟩ = some (.int .i64 (Z i))) :
    Calls Try.prog 22 #[.slice (some x) len cap] w fun e w' => e = .returned (.slice (some ⟨w.heap.size, 0, none⟩) len len) ∧ Below w.heap.size w w' ∧ w'.heap.size = w.heap.size + 1 ∧ w'.rowIs w.heap.size 3 len (fun i => .int .i64 (Z i)) := by
  have hmk := run_make_row' (P := Try.prog) 54 3 (.int .i64 0) 8 Try.underlying54 info3 rfl .i64 .i64 len (by omega) (by omega)
  have hnil := fun w a n c => Lib.run_eql_slice_nil (P := Try.prog) w 54 3 a n c 0 0 Try.underlying54
  go_enter Try.func22, Try.ntmps22
  go_wp2
  clear hmk hnil
  go_loopg [4] len (fun g i wr => ∃ k : Nat, k ≤ len ∧ g = len - k ∧ i = .int .i64 k ∧ wr.heap.size = w.heap.size + 1 ∧ Below w.heap.size w wr ∧ wr.rowIs w.heap.size 3 len (fun i => if i < k then .int .i64 (Z i) else .int .i64 0))
  case atStart => exact ⟨0, Nat.zero_le _, rfl, rfl, by simp, (Below.refl _ _).alloc (Nat.le_refl _) _, (World.rowIs_made w _ len 3).congr (fun j _ => by simp)⟩
  case round =>
    obtain ⟨k, hk, rfl, rfl, hs, hb, hr⟩ := hrel
    by_cases hlt : k < len
    · obtain rfl := hx (by omega)
      have hkz : (k : Int) < (len : Int) := by omega
      have hbl : b < w.heap.size := World.block_lt_of_cell? _ _ (hV k hlt)
      have g0 : wr.cell? ⟨b, off + k, none⟩ = some (.int .i64 (Z k)) := by rw [hb.cell (p := ⟨b, off + k, none⟩) hbl]; exact hV k hlt
      have g1 : wr.cell? ⟨w.heap.size, k, none⟩ = some (.int .i64 0) := by simpa using hr.cell hlt
      have g2 : wr.frozen? ⟨w.heap.size, k, none⟩ = false := hr.frozen k
      have R := clone22_step hs hb hr
      clear hs hb hr hV
      go_wp2
      go_roundg (len - (k + 1))
      case measure => omega
      case rel => exact ⟨k + 1, by omega, rfl, by go_num, R.1, R.2.1, R.2.2⟩
    · have hkz : ¬ (k : Int) < (len : Int) := by omega
      have R := hr.congr (g := fun i => .int .i64 (Z i)) (fun i hi => by rw [if_pos (by omega)])
      clear hr hV
      go_wp2
      go_ret
      exact ⟨rfl, hb, hs, R⟩

set_option maxHeartbeats 400000 in
theorem clone22_none (w : World) : Calls Try.prog 22 #[.slice none 0 0] w fun e w' => e = .returned (.slice none 0 0) ∧ w = w' := by
  have hnil := fun w a n c => Lib.run_eql_slice_nil (P := Try.prog) w 54 3 a n c 0 0 Try.underlying54
  go_enter Try.func22, Try.ntmps22
  go_wp2
  go_ret
  exact ⟨rfl, rfl⟩

theorem clone22_any (a : Option Addr) (b off len cap : Nat) (Z : Nat → Int) (w : World) (hl : len ≤ 1048576) (hn : a = none → len = 0 ∧ cap = 0) (ha : 0 < len → a = some ⟨b, off, none⟩)
    (hV : ∀ i, i < len → w.cell? ⟨b, off + i, none⟩ = some (.int .i64 (Z i))) :
    Calls Try.prog 22 #[.slice a len cap] w fun e w' => ∃ a', e = .returned (.slice a' len len) ∧ Below w.heap.size w w' ∧ (0 < len → a' = some ⟨w.heap.size, 0, none⟩ ∧ w'.rowIs w.heap.size 3 len (fun i => .int .i64 (Z i))) := by
  cases a with
  | none =>
    obtain ⟨rfl, rfl⟩ := hn rfl
    refine (clone22_none w).mono ?_
    rintro e w' ⟨rfl, rfl⟩
    exact ⟨none, rfl, Below.refl _ _, fun h => absurd h (Nat.not_lt_zero _)⟩
  | some x =>
    refine (clone22_some x b off len cap Z w hl (fun h => Option.some.inj (ha h)) hV).mono ?_
    rintro e w' ⟨rfl, hb, _, hr⟩
    exact ⟨_, rfl, hb, fun _ => ⟨rfl, hr⟩⟩

/-- WHAT A CLONE HOLDS, k cells copied. -/
theorem clone38_step {w wr : World} {len k : Nat} {Z : Nat → Int} (hs : wr.heap.size = w.heap.size + 1) (hb : Below w.heap.size w wr)
    (hr : wr.rowIs w.heap.size 34 len (fun i => if i < k then .int .u64 (Z i) else .int .u64 0)) :
    (wr.setCell ⟨w.heap.size, k, none⟩ (.int .u64 (Z k))).heap.size = w.heap.size + 1 ∧ Below w.heap.size w (wr.setCell ⟨w.heap.size, k, none⟩ (.int .u64 (Z k))) ∧
    (wr.setCell ⟨w.heap.size, k, none⟩ (.int .u64 (Z k))).rowIs w.heap.size 34 len (fun i => if i < k + 1 then .int .u64 (Z i) else .int .u64 0) := by
  refine ⟨by simp [World.setCell, hs], hb.setCell (Nat.le_refl _) _, (hr.set k _).congr (fun j _ => ?_)⟩
  by_cases ej : j = k
  · subst ej; simp
  · rw [if_neg ej]
    by_cases hlt : j < k
    · rw [if_pos hlt, if_pos (by omega)]
    · rw [if_neg hlt, if_neg (by omega)]

set_option maxHeartbeats 400000 in
theorem clone38_some (x : Addr) (b off len cap : Nat) (Z : Nat → Int) (w : World) (hl : len ≤ 1048576) (hx : 0 < len → x = ⟨b, off, none⟩)
    (hV : ∀ i, i < len → w.cell? ⟨b, off + i, none⟩ = some (.int .u64 (Z i))) :
    Calls Try.prog 38 #[.slice (some x) len cap] w fun e w' => e = .returned (.slice (some ⟨w.heap.size, 0, none⟩) len len) ∧ Below w.heap.size w w' ∧ w'.heap.size = w.heap.size + 1 ∧ w'.rowIs w.heap.size 34 len (fun i => .int .u64 (Z i)) := by
  have hmk := run_make_row' (P := Try.prog) 24 34 (.int .u64 0) 8 Try.underlying24 info34 rfl .i64 .i64 len (by omega) (by omega)
  have hnil := fun w a n c => Lib.run_eql_slice_nil (P := Try.prog) w 24 34 a n c 0 0 Try.underlying24
  go_enter Try.func38, Try.ntmps38
  go_wp2
  clear hmk hnil
  go_loopg [4] len (fun g i wr => ∃ k : Nat, k ≤ len ∧ g = len - k ∧ i = .int .i64 k ∧ wr.heap.size = w.heap.size + 1 ∧ Below w.heap.size w wr ∧ wr.rowIs w.heap.size 34 len (fun i => if i < k then .int .u64 (Z i) else .int .u64 0))
  case atStart => exact ⟨0, Nat.zero_le _, rfl, rfl, by simp, (Below.refl _ _).alloc (Nat.le_refl _) _, (World.rowIs_made w _ len 34).congr (fun j _ => by simp)⟩
  case round =>
    obtain ⟨k, hk, rfl, rfl, hs, hb, hr⟩ := hrel
    by_cases hlt : k < len
    · obtain rfl := hx (by omega)
      have hkz : (k : Int) < (len : Int) := by omega
      have hbl : b < w.heap.size := World.block_lt_of_cell? _ _ (hV k hlt)
      have g0 : wr.cell? ⟨b, off + k, none⟩ = some (.int .u64 (Z k)) := by rw [hb.cell (p := ⟨b, off + k, none⟩) hbl]; exact hV k hlt
      have g1 : wr.cell? ⟨w.heap.size, k, none⟩ = some (.int .u64 0) := by simpa using hr.cell hlt
      have g2 : wr.frozen? ⟨w.heap.size, k, none⟩ = false := hr.frozen k
      have R := clone38_step hs hb hr
      clear hs hb hr hV
      go_wp2
      go_roundg (len - (k + 1))
      case measure => omega
      case rel => exact ⟨k + 1, by omega, rfl, by go_num, R.1, R.2.1, R.2.2⟩
    · have hkz : ¬ (k : Int) < (len : Int) := by omega
      have R := hr.congr (g := fun i => .int .u64 (Z i)) (fun i hi => by rw [if_pos (by omega)])
      clear hr hV
      go_wp2
      go_ret
      exact ⟨rfl, hb, hs, R⟩

set_option maxHeartbeats 400000 in
theorem clone38_none (w : World) : Calls Try.prog 38 #[.slice none 0 0] w fun e w' => e = .returned (.slice none 0 0) ∧ w = w' := by
  have hnil := fun w a n c => Lib.run_eql_slice_nil (P := Try.prog) w 24 34 a n c 0 0 Try.underlying24
  go_enter Try.func38, Try.ntmps38
  go_wp2
  go_ret
  exact ⟨rfl, rfl⟩

theorem clone38_any (a : Option Addr) (b off len cap : Nat) (Z : Nat → Int) (w : World) (hl : len ≤ 1048576) (hn : a = none → len = 0 ∧ cap = 0) (ha : 0 < len → a = some ⟨b, off, none⟩)
    (hV : ∀ i, i < len → w.cell? ⟨b, off + i, none⟩ = some (.int .u64 (Z i))) :
    Calls Try.prog 38 #[.slice a len cap] w fun e w' => ∃ a', e = .returned (.slice a' len len) ∧ Below w.heap.size w w' ∧ (0 < len → a' = some ⟨w.heap.size, 0, none⟩ ∧ w'.rowIs w.heap.size 34 len (fun i => .int .u64 (Z i))) := by
  cases a with
  | none =>
    obtain ⟨rfl, rfl⟩ := hn rfl
    refine (clone38_none w).mono ?_
    rintro e w' ⟨rfl, rfl⟩
    exact ⟨none, rfl, Below.refl _ _, fun h => absurd h (Nat.not_lt_zero _)⟩
  | some x =>
    refine (clone38_some x b off len cap Z w hl (fun h => Option.some.inj (ha h)) hV).mono ?_
    rintro e w' ⟨rfl, hb, _, hr⟩
    exact ⟨_, rfl, hb, fun _ => ⟨rfl, hr⟩⟩

end Go.Proofs.Qxb6003791a.Nb
