import Derived.Test.Qxb6003791aNtBase
set_option linter.unusedVariables false
namespace Go.Proofs.Qxb6003791a.Nt
open Go.RowKit

theorem info9 : (Try.prog.info? 9).map (fun i => (i.zero, i.size, i.bytes)) = some (some (.string ⟨#[]⟩), 1, 16) := by kernel_rfl
theorem info34 : (Try.prog.info? 34).map (fun i => (i.zero, i.size, i.bytes)) = some (some (.int .u64 0), 1, 8) := by kernel_rfl
theorem info4 : (Try.prog.info? 4).map (fun i => (i.zero, i.size, i.bytes)) = some (some (.bool false), 1, 1) := by kernel_rfl
theorem info21 : (Try.prog.info? 21).map (fun i => (i.zero, i.size, i.bytes)) = some (some (.int .i32 0), 1, 4) := by kernel_rfl
theorem info3 : (Try.prog.info? 3).map (fun i => (i.zero, i.size, i.bytes)) = some (some (.int .i64 0), 1, 8) := by kernel_rfl

/-- The ending is a Bool of which p holds (behind a name, so that the walk does not take it apart). -/
def Answers (p : Bool → Prop) (e : Ending) : Prop := ∃ bv, e = .returned (.bool bv) ∧ p bv
def BOk (len : Nat) (self : ByteArray) (Ss : Nat → ByteArray) (bv : Bool) : Prop := bv = true → len ≤ 1048576 ∧ self.size ≤ 1048576 ∧ ∀ i, i < len → (Ss i).size ≤ 1048576
theorem bok_false {len : Nat} {self : ByteArray} {Ss : Nat → ByteArray} : BOk len self Ss false := fun h => by cases h
theorem answers {p : Bool → Prop} {e : Ending} (bv : Bool) (he : e = .returned (.bool bv)) (h : p bv) : Answers p e := ⟨bv, he, h⟩

set_option maxHeartbeats 400000 in
theorem bytes_any (a : Option Addr) (b off len cap : Nat) (Ss : Nat → ByteArray) (self : ByteArray) (own : Int) (w : World) (hl : len ≤ 9223372036854775807) (hs : self.size ≤ 9223372036854775807)
    (ha : 0 < len → a = some ⟨b, off, none⟩) (hV : ∀ i, i < len → w.cell? ⟨b, off + i, none⟩ = some (.string (Ss i))) (hSs : ∀ i, i < len → (Ss i).size ≤ 9223372036854775807) :
    Calls Try.prog 26 #[.slice a len cap, .string self, .int .i64 own] w fun e w' => w = w' ∧ Answers (BOk len self Ss) e := by
  by_cases h0 : len ≤ 1048576
  · go_enter Try.func26, Try.ntmps26
    go_wp2
    go_loop [7, 8] (fun t i => ∃ k : Nat, k ≤ len ∧ i = .int .i64 k ∧ (∃ x : Int, t = .int .i64 x ∧ 0 ≤ x ∧ x ≤ 1048576) ∧ ∀ j, j < k → (Ss j).size ≤ 1048576) (fun _ i => len - (intOf i).toNat)
    case atStart => exact ⟨0, Nat.zero_le _, rfl, ⟨len, by simp, by omega, by omega⟩, fun j hj => absurd hj (by omega)⟩
    case round =>
      obtain ⟨k, hk, rfl, ⟨x, rfl, hx0, hx1⟩, hall⟩ := hrel
      by_cases hlt : k < len
      · obtain rfl := ha (by omega)
        have g := hV k hlt
        have gs := hSs k hlt
        have HA := hide hall
        have HS := hide hSs
        clear hall hSs hV
        by_cases hbig : (Ss k).size ≤ 1048576
        · by_cases hsum : x + (Ss k).size ≤ 1048576
          · go_wp2
            go_round
            case rel => exact ⟨k + 1, by omega, by go_num, ⟨x + (Ss k).size, rfl, by omega, by omega⟩, fun j hj => by
              by_cases e : j = k
              · subst e; exact hbig
              · exact unhide HA j (by omega)⟩
            case measure => simp [intOf]; omega
          · go_wp2
            go_ret
            exact ⟨rfl, answers false rfl bok_false⟩
        · go_wp2
          go_ret
          exact ⟨rfl, answers false rfl bok_false⟩
      · have hkl : k = len := by omega
        have HA := hide hall
        clear hall
        by_cases hbig : self.size ≤ 1048576
        · by_cases hsum : x + self.size ≤ 1048576
          · go_wp2
            go_ret
            exact ⟨rfl, answers true rfl (fun _ => ⟨h0, hbig, fun i hi => unhide HA i (by omega)⟩)⟩
          · go_wp2
            go_ret
            exact ⟨rfl, answers false rfl bok_false⟩
        · go_wp2
          go_ret
          exact ⟨rfl, answers false rfl bok_false⟩
  · go_enter Try.func26, Try.ntmps26
    go_wp2
    go_ret
    exact ⟨rfl, answers false rfl bok_false⟩

set_option maxHeartbeats 400000 in
theorem sbytes_any (a : Option Addr) (b off len cap : Nat) (Ss : Nat → ByteArray) (w : World) (hl : len ≤ 1048576)
    (ha : 0 < len → a = some ⟨b, off, none⟩) (hV : ∀ i, i < len → w.cell? ⟨b, off + i, none⟩ = some (.string (Ss i))) (hSs : ∀ i, i < len → (Ss i).size ≤ 1048576) :
    Calls Try.prog 27 #[.slice a len cap] w fun e w' => ∃ t : Int, e = .returned (.int .i64 t) ∧ w = w' ∧ 0 ≤ t ∧ t ≤ 20000000 := by
  go_enter Try.func27, Try.ntmps27
  go_wp2
  go_loop [3, 4] (fun t i => ∃ k : Nat, k ≤ len ∧ i = .int .i64 k ∧ ∃ x : Int, t = .int .i64 x ∧ 0 ≤ x ∧ x ≤ 16777216) (fun _ i => len - (intOf i).toNat)
  case atStart => exact ⟨0, Nat.zero_le _, rfl, 16 * len, rfl, by omega, by omega⟩
  case round =>
    obtain ⟨k, hk, rfl, x, rfl, hx0, hx1⟩ := hrel
    by_cases hlt : k < len
    · obtain rfl := ha (by omega)
      have g := hV k hlt
      have gs := hSs k hlt
      clear hV hSs
      by_cases hsum : x + (Ss k).size ≤ 2097152
      · go_wp2
        go_round
        case rel => exact ⟨k + 1, by omega, by go_num, x + (Ss k).size, rfl, by omega, by omega⟩
        case measure => simp [intOf]; omega
      · go_wp2
        go_ret
        exact ⟨x + (Ss k).size, rfl, rfl, by omega, by omega⟩
    · go_wp2
      go_ret
      exact ⟨x, rfl, rfl, by omega, by omega⟩

/-- WHAT A CLONE HOLDS, k cells copied. -/
theorem clone28_step {w wr : World} {len k : Nat} {Z : Nat → ByteArray} (hs : wr.heap.size = w.heap.size + 1) (hb : Below w.heap.size w wr)
    (hr : wr.rowIs w.heap.size 9 len (fun i => if i < k then .string (Z i) else .string ⟨#[]⟩)) :
    (wr.setCell ⟨w.heap.size, k, none⟩ (.string (Z k))).heap.size = w.heap.size + 1 ∧ Below w.heap.size w (wr.setCell ⟨w.heap.size, k, none⟩ (.string (Z k))) ∧
    (wr.setCell ⟨w.heap.size, k, none⟩ (.string (Z k))).rowIs w.heap.size 9 len (fun i => if i < k + 1 then .string (Z i) else .string ⟨#[]⟩) := by
  refine ⟨by simp [World.setCell, hs], hb.setCell (Nat.le_refl _) _, (hr.set k _).congr (fun j _ => ?_)⟩
  by_cases ej : j = k
  · subst ej; simp
  · rw [if_neg ej]
    by_cases hlt : j < k
    · rw [if_pos hlt, if_pos (by omega)]
    · rw [if_neg hlt, if_neg (by omega)]

set_option maxHeartbeats 400000 in
theorem clone28_some (x : Addr) (b off len cap : Nat) (Z : Nat → ByteArray) (w : World) (hl : len ≤ 1048576) (hx : 0 < len → x = ⟨b, off, none⟩)
    (hV : ∀ i, i < len → w.cell? ⟨b, off + i, none⟩ = some (.string (Z i))) :
    Calls Try.prog 28 #[.slice (some x) len cap] w fun e w' => e = .returned (.slice (some ⟨w.heap.size, 0, none⟩) len len) ∧ Below w.heap.size w w' ∧ w'.heap.size = w.heap.size + 1 ∧ w'.rowIs w.heap.size 9 len (fun i => .string (Z i)) := by
  have hmk := run_make_row' (P := Try.prog) 62 9 (.string ⟨#[]⟩) 16 Try.underlying62 info9 rfl .i64 .i64 len (by omega) (by omega)
  have hnil := fun w a n c => Lib.run_eql_slice_nil (P := Try.prog) w 62 9 a n c 0 0 Try.underlying62
  go_enter Try.func28, Try.ntmps28
  go_wp2
  clear hmk hnil
  go_loopg [4] len (fun g i wr => ∃ k : Nat, k ≤ len ∧ g = len - k ∧ i = .int .i64 k ∧ wr.heap.size = w.heap.size + 1 ∧ Below w.heap.size w wr ∧ wr.rowIs w.heap.size 9 len (fun i => if i < k then .string (Z i) else .string ⟨#[]⟩))
  case atStart => exact ⟨0, Nat.zero_le _, rfl, rfl, by simp, (Below.refl _ _).alloc (Nat.le_refl _) _, (World.rowIs_made w _ len 9).congr (fun j _ => by simp)⟩
  case round =>
    obtain ⟨k, hk, rfl, rfl, hs, hb, hr⟩ := hrel
    by_cases hlt : k < len
    · obtain rfl := hx (by omega)
      have hkz : (k : Int) < (len : Int) := by omega
      have hbl : b < w.heap.size := World.block_lt_of_cell? _ _ (hV k hlt)
      have g0 : wr.cell? ⟨b, off + k, none⟩ = some (.string (Z k)) := by rw [hb.cell (p := ⟨b, off + k, none⟩) hbl]; exact hV k hlt
      have g1 : wr.cell? ⟨w.heap.size, k, none⟩ = some (.string ⟨#[]⟩) := by simpa using hr.cell hlt
      have g2 : wr.frozen? ⟨w.heap.size, k, none⟩ = false := hr.frozen k
      have R := clone28_step hs hb hr
      clear hs hb hr hV
      go_wp2
      go_roundg (len - (k + 1))
      case measure => omega
      case rel => exact ⟨k + 1, by omega, rfl, by go_num, R.1, R.2.1, R.2.2⟩
    · have hkz : ¬ (k : Int) < (len : Int) := by omega
      have R := hr.congr (g := fun i => .string (Z i)) (fun i hi => by rw [if_pos (by omega)])
      clear hr hV
      go_wp2
      go_ret
      exact ⟨rfl, hb, hs, R⟩

set_option maxHeartbeats 400000 in
theorem clone28_none (w : World) : Calls Try.prog 28 #[.slice none 0 0] w fun e w' => e = .returned (.slice none 0 0) ∧ w = w' := by
  have hnil := fun w a n c => Lib.run_eql_slice_nil (P := Try.prog) w 62 9 a n c 0 0 Try.underlying62
  go_enter Try.func28, Try.ntmps28
  go_wp2
  go_ret
  exact ⟨rfl, rfl⟩

theorem clone28_any (a : Option Addr) (b off len cap : Nat) (Z : Nat → ByteArray) (w : World) (hl : len ≤ 1048576) (hn : a = none → len = 0 ∧ cap = 0) (ha : 0 < len → a = some ⟨b, off, none⟩)
    (hV : ∀ i, i < len → w.cell? ⟨b, off + i, none⟩ = some (.string (Z i))) :
    Calls Try.prog 28 #[.slice a len cap] w fun e w' => ∃ a', e = .returned (.slice a' len len) ∧ Below w.heap.size w w' ∧ (0 < len → a' = some ⟨w.heap.size, 0, none⟩ ∧ w'.rowIs w.heap.size 9 len (fun i => .string (Z i))) := by
  cases a with
  | none =>
    obtain ⟨rfl, rfl⟩ := hn rfl
    refine (clone28_none w).mono ?_
    rintro e w' ⟨rfl, rfl⟩
    exact ⟨none, rfl, Below.refl _ _, fun h => absurd h (Nat.not_lt_zero _)⟩
  | some x =>
    refine (clone28_some x b off len cap Z w hl (fun h => Option.some.inj (ha h)) hV).mono ?_
    rintro e w' ⟨rfl, hb, _, hr⟩
    exact ⟨_, rfl, hb, fun _ => ⟨rfl, hr⟩⟩

end Go.Proofs.Qxb6003791a.Nt
