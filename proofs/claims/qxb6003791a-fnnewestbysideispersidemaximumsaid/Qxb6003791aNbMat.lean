import Derived.Test.Qxb6003791aNbBase
set_option linter.unusedVariables false
namespace Go.Proofs.Qxb6003791a.Nb
open Go.RowKit

/-- The clone of a matrix, r rows copied: a block for the rows' headers, then one block a row. -/
structure MI (w wr : World) (m r : Nat) (L : Nat → Nat) (Z : Nat → Nat → Int) : Prop where
  below : Below w.heap.size w wr
  size : wr.heap.size = w.heap.size + 1 + r
  top : wr.rowIs w.heap.size 24 m (fun j => if j < r then .slice (some ⟨w.heap.size + 1 + j, 0, none⟩) (L j) (L j) else .slice none 0 0)
  rows : ∀ j, j < r → wr.rowIs (w.heap.size + 1 + j) 34 (L j) (fun c => .int .u64 (Z j c))

theorem mi_start (w : World) (m : Nat) (L : Nat → Nat) (Z : Nat → Nat → Int) : MI w (w.alloc (.cells (madeCells #[.slice none 0 0] m) 24)) m 0 L Z :=
  ⟨(Below.refl _ _).alloc (Nat.le_refl _) _, by simp, (World.rowIs_made w _ m 24).congr (fun j _ => by simp), fun j hj => absurd hj (by omega)⟩

theorem mi_step {w wr w1 : World} {m r : Nat} {L : Nat → Nat} {Z : Nat → Nat → Int} (h : MI w wr m r L Z) (hb : Below wr.heap.size wr w1) (hs : w1.heap.size = wr.heap.size + 1) (hr : w1.rowIs wr.heap.size 34 (L r) (fun c => .int .u64 (Z r c))) :
    MI w (w1.setCell ⟨w.heap.size, r, none⟩ (.slice (some ⟨wr.heap.size, 0, none⟩) (L r) (L r))) m (r + 1) L Z := by
  have hsz := h.size
  refine ⟨(h.below.trans (hb.mono (by omega))).setCell (Nat.le_refl _) _, by simp [World.setCell]; omega, ?_, fun j hj => ?_⟩
  · refine ((h.top.of_block (w' := w1) (hb.block _ (by omega))).set r _).congr (fun j _ => ?_)
    by_cases e : j = r
    · subst e; simp [hsz]
    · rw [if_neg e]
      by_cases hlt : j < r
      · rw [if_pos hlt, if_pos (by omega)]
      · rw [if_neg hlt, if_neg (by omega)]
  · by_cases e : j = r
    · subst e
      rw [hsz] at hr
      exact hr.setOther (by show w.heap.size + 1 + j ≠ w.heap.size; omega) _
    · exact ((h.rows j (by omega)).of_block (w' := w1) (hb.block _ (by omega))).setOther (by show w.heap.size + 1 + j ≠ w.heap.size; omega) _

/-- What the clone is good for: row r's header, and its element at place kk. -/
def Rows (w : World) (q : Option Addr) (m kk : Nat) (x : Nat → Int) : Prop :=
  (0 < m → ∃ B, q = some ⟨B, 0, none⟩ ∧ B < w.heap.size ∧ ∀ r, r < m → ∃ (R n : Nat), R < w.heap.size ∧ kk < n ∧ w.cell? ⟨B, r, none⟩ = some (.slice (some ⟨R, 0, none⟩) n n) ∧ w.cell? ⟨R, kk, none⟩ = some (.int .u64 (x r)))

set_option maxHeartbeats 1000000 in
theorem mat_some (y : Addr) (b off m cap kk : Nat) (RB RO L C : Nat → Nat) (Z : Nat → Nat → Int) (w : World) (hm : m ≤ 1024) (hL : ∀ r, r < m → L r ≤ 1048576 ∧ kk < L r) (hy : 0 < m → y = ⟨b, off, none⟩)
    (hV : ∀ r, r < m → w.cell? ⟨b, off + r, none⟩ = some (.slice (some ⟨RB r, RO r, none⟩) (L r) (C r))) (hZ : ∀ r, r < m → ∀ c, c < L r → w.cell? ⟨RB r, RO r + c, none⟩ = some (.int .u64 (Z r c))) :
    Calls Try.prog 23 #[.slice (some y) m cap] w fun e w' => e = .returned (.slice (some ⟨w.heap.size, 0, none⟩) m m) ∧ MI w w' m m L Z := by
  have hmk := run_make_row' (P := Try.prog) 55 24 (.slice none 0 0) 24 Try.underlying55 info24 rfl .i64 .i64 m (by omega) (by omega)
  have hnil := fun w a n c => Lib.run_eql_slice_nil (P := Try.prog) w 55 24 a n c 0 0 Try.underlying55
  have HV := hide hV
  have HZ := hide hZ
  have HL := hide hL
  clear hV hZ hL
  go_enter Try.func23, Try.ntmps23
  go_wp2
  clear hmk hnil
  go_loopg [4] m (fun g i wr => ∃ k : Nat, k ≤ m ∧ g = m - k ∧ i = .int .i64 k ∧ MI w wr m k L Z)
  case atStart => exact ⟨0, Nat.zero_le _, rfl, rfl, mi_start w m L Z⟩
  case round =>
    obtain ⟨k, hk, rfl, rfl, hI⟩ := hrel
    by_cases hlt : k < m
    · obtain rfl := hy (by omega)
      have hkz : (k : Int) < (m : Int) := by omega
      have hbl : b < w.heap.size := World.block_lt_of_cell? _ _ (unhide HV k hlt)
      obtain ⟨hLk, hkk⟩ := unhide HL k hlt
      have hRl : RB k < w.heap.size := World.block_lt_of_cell? _ _ (unhide HZ k hlt 0 (by omega))
      have g0 : wr.cell? ⟨b, off + k, none⟩ = some (.slice (some ⟨RB k, RO k, none⟩) (L k) (C k)) := by rw [hI.below.cell (p := ⟨b, off + k, none⟩) hbl]; exact unhide HV k hlt
      have hsz := hI.size
      have K38 := hide (clone38_some ⟨RB k, RO k, none⟩ (RB k) (RO k) (L k) (C k) (Z k) wr hLk (fun _ => rfl) (fun c hc => by rw [hI.below.cell (p := ⟨RB k, RO k + c, none⟩) hRl]; exact unhide HZ k hlt c hc))
      have hlr : w.heap.size < wr.heap.size := by omega
      have HI := hide hI
      have HSZ := hide hsz
      have htop := hI.top
      clear hI hsz
      go_wp2_with fail
      refine (unhide K38).mono ?_
      rintro e w1 ⟨rfl, hb1, hs1, hr1⟩
      have htop1 := htop.of_block (w' := w1) (hb1.block _ hlr)
      have g1 : w1.cell? ⟨w.heap.size, k, none⟩ = some (.slice none 0 0) := by simpa using htop1.cell hlt
      have g2 : w1.frozen? ⟨w.heap.size, k, none⟩ = false := htop1.frozen k
      have HS := hide (mi_step (unhide HI) hb1 hs1 hr1)
      clear htop htop1 hb1 hs1 hr1 K38
      go_wp2
      go_roundg (m - (k + 1))
      case measure => omega
      case rel => exact ⟨k + 1, by omega, rfl, by go_num, unhide HS⟩
    · obtain rfl : m = k := by omega
      have hkz : ¬ (m : Int) < (m : Int) := by omega
      have HI := hide hI
      clear hI
      go_wp2
      go_ret
      exact ⟨rfl, unhide HI⟩

set_option maxHeartbeats 400000 in
theorem mat_none (w : World) : Calls Try.prog 23 #[.slice none 0 0] w fun e w' => e = .returned (.slice none 0 0) ∧ w = w' := by
  have hnil := fun w a n c => Lib.run_eql_slice_nil (P := Try.prog) w 55 24 a n c 0 0 Try.underlying55
  go_enter Try.func23, Try.ntmps23
  go_wp2
  go_ret
  exact ⟨rfl, rfl⟩

theorem mat_any (a : Option Addr) (b off m cap kk : Nat) (RB RO L C : Nat → Nat) (Z : Nat → Nat → Int) (w : World) (hm : m ≤ 1024) (hL : ∀ r, r < m → L r ≤ 1048576 ∧ kk < L r) (hn : a = none → m = 0 ∧ cap = 0) (ha : 0 < m → a = some ⟨b, off, none⟩)
    (hV : ∀ r, r < m → w.cell? ⟨b, off + r, none⟩ = some (.slice (some ⟨RB r, RO r, none⟩) (L r) (C r))) (hZ : ∀ r, r < m → ∀ c, c < L r → w.cell? ⟨RB r, RO r + c, none⟩ = some (.int .u64 (Z r c))) :
    Calls Try.prog 23 #[.slice a m cap] w fun e w' => ∃ q, e = .returned (.slice q m m) ∧ Below w.heap.size w w' ∧ Rows w' q m kk (fun r => Z r kk) := by
  cases a with
  | none =>
    obtain ⟨rfl, rfl⟩ := hn rfl
    refine (mat_none w).mono ?_
    rintro e w' ⟨rfl, rfl⟩
    exact ⟨none, rfl, Below.refl _ _, fun h => absurd h (by omega)⟩
  | some y =>
    refine (mat_some y b off m cap kk RB RO L C Z w hm hL (fun h => Option.some.inj (ha h)) hV hZ).mono ?_
    rintro e w' ⟨rfl, hI⟩
    have hsz := hI.size
    refine ⟨_, rfl, hI.below, fun h => ⟨w.heap.size, rfl, by omega, fun r hr => ⟨w.heap.size + 1 + r, L r, by omega, (hL r hr).2, ?_, (hI.rows r hr).cell (hL r hr).2⟩⟩⟩
    have := hI.top.cell hr
    rw [if_pos hr] at this
    exact this
end Go.Proofs.Qxb6003791a.Nb
