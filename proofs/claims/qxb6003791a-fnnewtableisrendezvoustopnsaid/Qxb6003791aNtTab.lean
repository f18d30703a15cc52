import Derived.Test.Qxb6003791aNtPlain
import Derived.Deep.CutRange
import Derived.Deep.DeepCutAuto
set_option linter.unusedVariables false
namespace Go.Proofs.Qxb6003791a.Nt
open Go.RowKit

/-- A view's cells: its members alone. -/
def viewArr (a : Option Addr) (m : Nat) : Array Value := #[.string ⟨#[]⟩, .string ⟨#[]⟩, .int .u64 0, .slice a m m, .slice none 0 0, .int .u64 0, .slice none 0 0]
/-- A table's cells. -/
def tabArr (a : Option Addr) (m : Nat) (me : Int) (n : Nat) (ow : Value) : Array Value := #[.int .u64 0, .slice a m m, .slice none 0 0, .int .i64 me, .int .i64 n, ow, .int .u64 0, .slice none 0 0]

/-- Is member i the one named me? -/
def isSelf (Ss : Nat → ByteArray) (me : ByteArray) (i : Nat) : Bool := (Ss i).toList == me.toList

/-- Loop 1: the seeds. -/
structure TI (w wr : World) (a : Option Addr) (m n k : Nat) (Ss : Nat → ByteArray) (me : ByteArray) : Prop where
  below : Below w.heap.size w wr
  size : wr.heap.size = w.heap.size + 3
  tab : wr.heap[w.heap.size + 1]? = some (.cells (tabArr a m (lastTo (isSelf Ss me) k) n (.slice none 0 0)) 77 (0, 0))
  seeds : wr.rowIs (w.heap.size + 2) 34 m (fun i => if i < k then .int .u64 (hashV (Ss i)) else .int .u64 0)

theorem ti_start (w : World) (a : Option Addr) (m n : Nat) (Ss : Nat → ByteArray) (me : ByteArray) (o1 : Obj) :
    TI w (((w.alloc o1).alloc (.cells #[.int .u64 0, .slice a m m, .slice none 0 0, .int .i64 (-1), .int .i64 n, .slice none 0 0, .int .u64 0, .slice none 0 0] 77)).alloc (.cells (madeCells #[.int .u64 0] m) 34)) a m n 0 Ss me := by
  have h2 := World.rowIs_made ((w.alloc o1).alloc (.cells #[.int .u64 0, .slice a m m, .slice none 0 0, .int .i64 (-1), .int .i64 n, .slice none 0 0, .int .u64 0, .slice none 0 0] 77)) (.int .u64 0) m 34
  have e : ((w.alloc o1).alloc (.cells #[.int .u64 0, .slice a m m, .slice none 0 0, .int .i64 (-1), .int .i64 n, .slice none 0 0, .int .u64 0, .slice none 0 0] 77)).heap.size = w.heap.size + 2 := by simp
  rw [e] at h2
  refine ⟨(((Below.refl _ _).alloc (Nat.le_refl _) _).alloc (by simp) _).alloc (by simp; omega) _, by simp, ?_, h2.congr (fun i _ => by simp)⟩
  rw [Below.heap_alloc _ _ _ (by simp), heap_alloc2_new]
  rfl

theorem ti_self {w wr : World} {a : Option Addr} {m n k : Nat} {Ss : Nat → ByteArray} {me : ByteArray} (h : TI w wr a m n k Ss me) (hk : isSelf Ss me k = true) :
    TI w ((wr.setCell ⟨w.heap.size + 1, 3, none⟩ (.int .i64 k)).setCell ⟨w.heap.size + 2, k, none⟩ (.int .u64 (hashV (Ss k)))) a m n (k + 1) Ss me := by
  refine ⟨(h.below.setCell (Nat.le_succ _) _).setCell (by show w.heap.size ≤ w.heap.size + 2; omega) _, by simp [World.setCell, h.size], ?_, ?_⟩
  · rw [Below.heap_setCell _ _ _ _ (by show w.heap.size + 1 ≠ w.heap.size + 2; omega), heap_setCell_same _ _ _ _ _ _ h.tab]
    simp [tabArr, lastTo, hk]
  · refine ((h.seeds.setOther (by show w.heap.size + 2 ≠ w.heap.size + 1; omega) _).set k _).congr (fun j _ => ?_)
    by_cases e : j = k
    · subst e; simp
    · rw [if_neg e]
      by_cases hlt : j < k
      · rw [if_pos hlt, if_pos (by omega)]
      · rw [if_neg hlt, if_neg (by omega)]

theorem ti_other {w wr : World} {a : Option Addr} {m n k : Nat} {Ss : Nat → ByteArray} {me : ByteArray} (h : TI w wr a m n k Ss me) (hk : isSelf Ss me k = false) :
    TI w (wr.setCell ⟨w.heap.size + 2, k, none⟩ (.int .u64 (hashV (Ss k)))) a m n (k + 1) Ss me := by
  refine ⟨h.below.setCell (by show w.heap.size ≤ w.heap.size + 2; omega) _, by simp [World.setCell, h.size], ?_, ?_⟩
  · rw [Below.heap_setCell _ _ _ _ (by show w.heap.size + 1 ≠ w.heap.size + 2; omega), h.tab]
    simp [lastTo, hk]
  · refine (h.seeds.set k _).congr (fun j _ => ?_)
    by_cases e : j = k
    · subst e; simp
    · rw [if_neg e]
      by_cases hlt : j < k
      · rw [if_pos hlt, if_pos (by omega)]
      · rw [if_neg hlt, if_neg (by omega)]

/-- Member i's score for part p. -/
def scf (Ss : Nat → ByteArray) (p i : Nat) : Int := mixV (bits BinOp.xor IntKind.u64 (hashV (Ss i)) (mixV p))

/-- Loop 2 and within: what the call's own memory holds. -/
structure PI (w wr : World) (a : Option Addr) (m n : Nat) (Ss : Nat → ByteArray) (me : ByteArray) (Ow Sx : Nat → Int) : Prop where
  below : Below w.heap.size w wr
  size : wr.heap.size = w.heap.size + 5
  tab : wr.heap[w.heap.size + 1]? = some (.cells (tabArr a m (lastTo (isSelf Ss me) m) n (.slice (some ⟨w.heap.size + 3, 0, none⟩) (4096 * n) (4096 * n))) 77 (0, 0))
  seeds : wr.rowIs (w.heap.size + 2) 34 m (fun i => .int .u64 (hashV (Ss i)))
  owners : wr.rowIs (w.heap.size + 3) 21 (4096 * n) (fun y => .int .i32 (Ow y))
  scores : wr.rowIs (w.heap.size + 4) 34 n (fun x => .int .u64 (Sx x))

theorem pi_start {w wr : World} {a : Option Addr} {m n : Nat} {Ss : Nat → ByteArray} {me : ByteArray} (h : TI w wr a m n m Ss me) :
    PI w (((wr.setCell ⟨w.heap.size + 1, 5, none⟩ (.slice (some ⟨w.heap.size + 3, 0, none⟩) (4096 * n) (4096 * n))).alloc (.cells (madeCells #[.int .i32 0] (4096 * n)) 21)).alloc (.cells (madeCells #[.int .u64 0] n) 34)) a m n Ss me (fun _ => 0) (fun _ => 0) := by
  have hs := h.size
  have e1 : (wr.setCell ⟨w.heap.size + 1, 5, none⟩ (.slice (some ⟨w.heap.size + 3, 0, none⟩) (4096 * n) (4096 * n))).heap.size = w.heap.size + 3 := by simp [World.setCell, hs]
  have e2 : ((wr.setCell ⟨w.heap.size + 1, 5, none⟩ (.slice (some ⟨w.heap.size + 3, 0, none⟩) (4096 * n) (4096 * n))).alloc (.cells (madeCells #[.int .i32 0] (4096 * n)) 21)).heap.size = w.heap.size + 4 := by simp [e1]
  have r1 := World.rowIs_made (wr.setCell ⟨w.heap.size + 1, 5, none⟩ (.slice (some ⟨w.heap.size + 3, 0, none⟩) (4096 * n) (4096 * n))) (.int .i32 0) (4096 * n) 21
  have r2 := World.rowIs_made ((wr.setCell ⟨w.heap.size + 1, 5, none⟩ (.slice (some ⟨w.heap.size + 3, 0, none⟩) (4096 * n) (4096 * n))).alloc (.cells (madeCells #[.int .i32 0] (4096 * n)) 21)) (.int .u64 0) n 34
  rw [e1] at r1
  rw [e2] at r2
  refine ⟨((h.below.setCell (Nat.le_succ _) _).alloc (by rw [e1]; omega) _).alloc (by rw [e2]; omega) _, by simp [e1], ?_, ?_, r1.alloc _, r2⟩
  · rw [Below.heap_alloc _ _ _ (by rw [e2]; omega), Below.heap_alloc _ _ _ (by rw [e1]; omega), heap_setCell_same _ _ _ _ _ _ h.tab]
    simp [tabArr]
  · exact (((h.seeds.congr (g := fun i => .int .u64 (hashV (Ss i))) (fun i hi => by rw [if_pos hi])).setOther (by show w.heap.size + 2 ≠ w.heap.size + 1; omega) _).alloc _).alloc _

theorem pi_drewN {w wr : World} {a : Option Addr} {m n : Nat} {Ss : Nat → ByteArray} {me : ByteArray} {Ow Sx : Nat → Int} (h : PI w wr a m n Ss me Ow Sx) (q : Nat) : PI w (wr.drewN q) a m n Ss me Ow Sx := by
  induction q with
  | zero => exact h
  | succ q ih => exact ⟨ih.below.drew, ih.size, ih.tab, ih.seeds, ih.owners, ih.scores⟩

theorem pi_set {w wr : World} {a : Option Addr} {m n : Nat} {Ss : Nat → ByteArray} {me : ByteArray} {Ow Sx : Nat → Int} (h : PI w wr a m n Ss me Ow Sx) (j y : Nat) (v u : Int) :
    PI w ((wr.setCell ⟨w.heap.size + 4, j, none⟩ (.int .u64 v)).setCell ⟨w.heap.size + 3, y, none⟩ (.int .i32 u)) a m n Ss me (fun z => if z = y then u else Ow z) (fun x => if x = j then v else Sx x) := by
  refine ⟨(h.below.setCell (by show w.heap.size ≤ w.heap.size + 4; omega) _).setCell (by show w.heap.size ≤ w.heap.size + 3; omega) _, by simp [World.setCell, h.size], ?_, ?_, ?_, ?_⟩
  · rw [Below.heap_setCell _ _ _ _ (by show w.heap.size + 1 ≠ w.heap.size + 3; omega), Below.heap_setCell _ _ _ _ (by show w.heap.size + 1 ≠ w.heap.size + 4; omega)]
    exact h.tab
  · exact (h.seeds.setOther (by show w.heap.size + 2 ≠ w.heap.size + 4; omega) _).setOther (by show w.heap.size + 2 ≠ w.heap.size + 3; omega) _
  · exact ((h.owners.setOther (by show w.heap.size + 3 ≠ w.heap.size + 4; omega) _).set y _).congr (fun z _ => by split <;> rfl)
  · exact ((h.scores.set j _).setOther (by show w.heap.size + 4 ≠ w.heap.size + 3; omega) _).congr (fun z _ => by split <;> rfl)

/-- The parts below p are ranked. -/
def Ranked (Ss : Nat → ByteArray) (m n p : Nat) (Ow : Nat → Int) : Prop := ∀ q, q < p → ∃ O, Top (scf Ss q) O n m n ∧ ∀ x, x < n → Ow (q * n + x) = (O x : Int)

theorem place {w wr : World} {a : Option Addr} {m n : Nat} {Ss : Nat → ByteArray} {me : ByteArray} {Ow Ow1 Sx1 Ow2 Sx2 : Nat → Int} {O : Nat → Nat} {x k cc j pn p : Nat} {sk : Int}
    (hP2 : PI w wr a m n Ss me Ow2 Sx2) (hsk : scf Ss p k = sk) (hT : Top (scf Ss p) O x k n) (hag : ∀ y, y < x → Ow1 (pn + y) = (O y : Int) ∧ Sx1 y = scf Ss p (O y)) (hold : ∀ y, y < pn → Ow1 y = Ow y) (hcn : cc ≤ n)
    (h1 : x < n → cc = x + 1) (h2 : ¬ x < n → cc = x ∧ Sx1 (x - 1) < scf Ss p k) (hj : j < cc)
    (hS : ∀ y, y < n → Sx2 y = shf Sx1 j cc y) (hO : ∀ y, y < n → Ow2 (pn + y) = shf (fun y => Ow1 (pn + y)) j cc y) (hold2 : ∀ y, y < pn → Ow2 y = Ow1 y)
    (hlo : j = 0 ∨ sk ≤ Sx1 (j - 1)) (hhi : ∀ y, j ≤ y → y + 1 < cc → Sx1 y < sk) :
    ∃ (O' : Nat → Nat) (Ow' Sx' : Nat → Int), PI w ((wr.setCell ⟨w.heap.size + 4, j, none⟩ (.int .u64 sk)).setCell ⟨w.heap.size + 3, pn + j, none⟩ (.int .i32 k)) a m n Ss me Ow' Sx' ∧
      Top (scf Ss p) O' cc (k + 1) n ∧ (∀ y, y < cc → Ow' (pn + y) = (O' y : Int) ∧ Sx' y = scf Ss p (O' y)) ∧ ∀ y, y < pn → Ow' y = Ow y := by
  subst hsk
  obtain ⟨hT', hag'⟩ := ins_done hT hag hcn h1 h2 hj hS hO hlo hhi
  refine ⟨_, _, _, pi_set hP2 j (pn + j) (scf Ss p k) k, hT', fun y hy => hag' y hy, fun y hy => ?_⟩
  show (if y = pn + j then (k : Int) else Ow2 y) = Ow y
  rw [if_neg (by omega), hold2 y hy, hold y hy]

theorem shift_place {w wr : World} {a : Option Addr} {m n : Nat} {Ss : Nat → ByteArray} {me : ByteArray} {Ow1 Sx1 Ow2 Sx2 : Nat → Int} {cc j pn : Nat}
    (hP2 : PI w wr a m n Ss me Ow2 Sx2) (hcn : cc ≤ n) (hj : j + 1 < cc)
    (hS : ∀ y, y < n → Sx2 y = shf Sx1 (j + 1) cc y) (hO : ∀ y, y < n → Ow2 (pn + y) = shf (fun y => Ow1 (pn + y)) (j + 1) cc y) (hold2 : ∀ y, y < pn → Ow2 y = Ow1 y) :
    ∃ Ow' Sx', PI w ((wr.setCell ⟨w.heap.size + 4, j + 1, none⟩ (.int .u64 (Sx2 j))).setCell ⟨w.heap.size + 3, pn + (j + 1), none⟩ (.int .i32 (Ow2 (pn + j)))).drew a m n Ss me Ow' Sx' ∧
      (∀ y, y < n → Sx' y = shf Sx1 j cc y) ∧ (∀ y, y < n → Ow' (pn + y) = shf (fun y => Ow1 (pn + y)) j cc y) ∧ ∀ y, y < pn → Ow' y = Ow1 y := by
  refine ⟨_, _, pi_drewN (pi_set hP2 (j + 1) (pn + (j + 1)) (Sx2 j) (Ow2 (pn + j))) 1, shf_step hS hj hcn, fun y hy => ?_, fun y hy => ?_⟩
  · have h := shf_step (F2 := fun y => Ow2 (pn + y)) hO hj hcn y hy
    show (if pn + y = pn + (j + 1) then Ow2 (pn + j) else Ow2 (pn + y)) = _
    rw [← h]
    by_cases e : y = j + 1
    · rw [if_pos (by omega), if_pos e]
    · rw [if_neg (by omega), if_neg e]
  · show (if y = pn + (j + 1) then Ow2 (pn + j) else Ow2 y) = Ow1 y
    rw [if_neg (by omega), hold2 y hy]

theorem ranked_step {Ss : Nat → ByteArray} {m n p : Nat} {Ow Ow' : Nat → Int} {O : Nat → Nat} (h : Ranked Ss m n p Ow) (hT : Top (scf Ss p) O n m n) (hO : ∀ y, y < n → Ow' (p * n + y) = (O y : Int)) (hold : ∀ y, y < p * n → Ow' y = Ow y) :
    Ranked Ss m n (p + 1) Ow' := fun q hq => by
  by_cases e : q = p
  · subst e; exact ⟨O, hT, hO⟩
  · obtain ⟨O', h1, h2⟩ := h q (by omega)
    refine ⟨O', h1, fun x hx => ?_⟩
    have : (q + 1) * n ≤ p * n := Nat.mul_le_mul_right n (by omega)
    rw [Nat.succ_mul] at this
    rw [hold _ (by omega)]
    exact h2 x hx

/-- What newTable leaves. -/
def TabOk (w w' : World) (a : Option Addr) (m n : Nat) (Ss : Nat → ByteArray) (me : ByteArray) : Prop := ∃ Ow Sx, PI w w' a m n Ss me Ow Sx ∧ Ranked Ss m n 4096 Ow

set_option maxRecDepth 100000 in
set_option maxHeartbeats 1000000 in
theorem table_any (B m o n : Nat) (Ss : Nat → ByteArray) (me : ByteArray) (w : World) (hm0 : 0 < m) (hm : m ≤ 8) (ho1 : 1 ≤ o) (ho8 : o ≤ 8) (hn1 : n ≤ o) (hn2 : n ≤ m) (hn3 : n = o ∨ n = m)
    (hV : ∀ i, i < m → w.cell? ⟨B, i, none⟩ = some (.string (Ss i))) (hS : ∀ i, i < m → (Ss i).size ≤ 1048576) :
    Calls Try.prog 40 #[.agg (viewArr (some ⟨B, 0, none⟩) m), .string me, .int .i64 o] w fun e w' => e = .returned (.pointer (some ⟨w.heap.size + 1, 0, none⟩)) ∧ TabOk w w' (some ⟨B, 0, none⟩) m n Ss me := by
  have hmk := run_make_row' (P := Try.prog) 24 34 (.int .u64 0) 8 Try.underlying24 info34 rfl .i64 .i64 m (by omega) (by omega)
  unfold viewArr
  have HN := hide hn3
  clear hn3
  go_enter Try.func40, Try.ntmps40
  go_upto_region 1 with fail
  go_cut [7] from 20 to 36 (fun s7 wx => s7 = .pointer (some ⟨w.heap.size + 1, 0, none⟩) ∧ (w.alloc (.cells #[.string ⟨#[]⟩, .string ⟨#[]⟩, .int .u64 0, .slice (some ⟨B, 0, none⟩) m m, .slice none 0 0, .int .u64 0, .slice none 0 0] 80)).alloc (.cells #[.int .u64 0, .slice (some ⟨B, 0, none⟩) m m, .slice none 0 0, .int .i64 (-1), .int .i64 n, .slice none 0 0, .int .u64 0, .slice none 0 0] 77) = wx)
  case first =>
    by_cases hle : o ≤ m
    · obtain rfl : n = o := by have := unhide HN; omega
      go_wp2
      go_meet
      exact ⟨rfl, rfl⟩
    · obtain rfl : n = m := by have := unhide HN; omega
      go_wp2
      go_meet
      exact ⟨rfl, rfl⟩
  case rest =>
  obtain ⟨rfl, rfl⟩ := hcut
  have hn0 : 0 < n := by have := unhide HN; omega
  clear HN
  have HV := hide hV
  have HSz := hide hS
  clear hV hS
  go_wp2
  clear hmk
  -- LOOP 1: the seeds
  go_loopg [44] m (fun g i wr => ∃ k : Nat, k ≤ m ∧ g = m - k ∧ i = .int .i64 k ∧ TI w wr (some ⟨B, 0, none⟩) m n k Ss me)
  case atStart => exact ⟨0, Nat.zero_le _, rfl, rfl, ti_start w (some ⟨B, 0, none⟩) m n Ss me _⟩
  case round =>
    obtain ⟨k, hk, rfl, rfl, hI⟩ := hrel
    by_cases hlt : k < m
    · have hkz : (k : Int) < (m : Int) := by omega
      have hBl : B < w.heap.size := World.block_lt_of_cell? _ _ (unhide HV k hlt)
      have g0 : wr.cell? ⟨B, k, none⟩ = some (.string (Ss k)) := by rw [hI.below.cell (p := ⟨B, k, none⟩) hBl]; exact unhide HV k hlt
      have g1 : wr.cell? ⟨w.heap.size + 1 + 1, k, none⟩ = some (.int .u64 0) := by simpa using hI.seeds.cell hlt
      have g2 : wr.frozen? ⟨w.heap.size + 1 + 1, k, none⟩ = false := hI.seeds.frozen k
      have g3 : wr.cell? ⟨w.heap.size + 1, 3, none⟩ = some (.int .i64 (lastTo (isSelf Ss me) k)) := by rw [cell_of_row wr _ 3 _ _ _ hI.tab]; rfl
      have g4 : wr.frozen? ⟨w.heap.size + 1, 3, none⟩ = false := frozen_of_row wr _ 3 _ _ hI.tab
      have hsk := unhide HSz k hlt
      have HI := hide hI
      clear hI
      cases hq : ((Ss k).toList == me.toList) with
      | true =>
        have HQ := hide (show isSelf Ss me k = true from hq)
        go_wp2_with (go_at_call 43; refine (hash_any _ _ hsk).mono ?_; rintro e w' ⟨rfl, rfl⟩)
        go_roundg (m - (k + 1))
        case measure => omega
        case rel => exact ⟨k + 1, by omega, rfl, by go_num, ti_self (unhide HI) (unhide HQ)⟩
      | false =>
        have HQ := hide (show isSelf Ss me k = false from hq)
        go_wp2_with (go_at_call 43; refine (hash_any _ _ hsk).mono ?_; rintro e w' ⟨rfl, rfl⟩)
        go_roundg (m - (k + 1))
        case measure => omega
        case rel => exact ⟨k + 1, by omega, rfl, by go_num, ti_other (unhide HI) (unhide HQ)⟩
    · obtain rfl : m = k := by omega
      have hkz : ¬ (m : Int) < (m : Int) := by omega
      have hsz := hI.size
      have t4 : wr.cell? ⟨w.heap.size + 1, 4, none⟩ = some (.int .i64 n) := by rw [cell_of_row wr _ 4 _ _ _ hI.tab]; rfl
      have t5 : wr.cell? ⟨w.heap.size + 1, 5, none⟩ = some (.slice none 0 0) := by rw [cell_of_row wr _ 5 _ _ _ hI.tab]; rfl
      have t6 : wr.frozen? ⟨w.heap.size + 1, 5, none⟩ = false := frozen_of_row wr _ 5 _ _ hI.tab
      have hmk1 := run_make_row' (P := Try.prog) 72 21 (.int .i32 0) 4 Try.underlying72 info21 rfl .i64 .i64 (4096 * n) (by omega) (by omega)
      have ec : ((4096 * n : Nat) : Int) = 4096 * (n : Int) := by omega
      rw [ec] at hmk1
      have hmk2 := run_make_row' (P := Try.prog) 24 34 (.int .u64 0) 8 Try.underlying24 info34 rfl .i64 .i64 n (by omega) (by omega)
      have HI := hide hI
      clear hI ec HV HSz
      go_wp2
      clear hmk1 hmk2 t4 t5 t6 hsz
      -- LOOP 2: the parts
      go_loopg [76] 4096 (fun g i wr => ∃ p : Nat, p ≤ 4096 ∧ g = 4096 - p ∧ i = .int .i64 p ∧ ∃ Ow Sx, PI w wr (some ⟨B, 0, none⟩) m n Ss me Ow Sx ∧ Ranked Ss m n p Ow)
      case atStart => exact ⟨0, Nat.zero_le _, rfl, rfl, _, _, pi_start (unhide HI), fun q hq => absurd hq (by omega)⟩
      case round =>
        obtain ⟨p, hp, rfl, rfl, Ow, Sx, hP, hR⟩ := hrel
        by_cases hlp : p < 4096
        · have hpz : (p : Int) < 4096 := by omega
          have t4 : wr.cell? ⟨w.heap.size + 1, 4, none⟩ = some (.int .i64 n) := by rw [cell_of_row wr _ 4 _ _ _ hP.tab]; rfl
          have t5 : wr.cell? ⟨w.heap.size + 1, 5, none⟩ = some (.slice (some ⟨w.heap.size + 3, 0, none⟩) (4096 * n) (4096 * n)) := by rw [cell_of_row wr _ 5 _ _ _ hP.tab]; rfl
          have b1 : p * n + n ≤ 4096 * n := by have := Nat.mul_le_mul_right n (show p + 1 ≤ 4096 from hlp); rw [Nat.succ_mul] at this; exact this
          have z1 : ((p : Int) + 1) * (n : Int) = (p : Int) * (n : Int) + (n : Int) := by rw [Int.add_mul, Int.one_mul]
          have z2 : (p : Int) * (n : Int) + (n : Int) ≤ 4096 * (n : Int) := by
            have e : (p : Int) * (n : Int) = ((p * n : Nat) : Int) := by simp
            rw [e]; omega
          have z3 : 0 ≤ (p : Int) * (n : Int) := Int.mul_nonneg (by omega) (by omega)
          have z4 : ((p : Int) * (n : Int)).toNat = p * n := by
            have e : (p : Int) * (n : Int) = ((p * n : Nat) : Int) := by simp
            rw [e]; omega
          have hne : ¬ 4096 * n = p * n := by omega
          have HP := hide hP
          have HR := hide hR
          clear hP hR
          go_wp2_with fail
          go_quiet (fail)
          clear z1 z2 z3 z4 hne t4 t5
          go_wp2_with (go_at_call 45; refine (mix_any _ _).mono ?_; rintro e w' ⟨rfl, rfl⟩)
          -- LOOP 3: the members
          have hP0 := pi_drewN (unhide HP) nq
          clear HP
          generalize hpn : p * n = pn at *
          have HPN := hide hpn
          clear hpn
          go_loopg [15, 102] m (fun g c i wr => ∃ (k x : Nat), k ≤ m ∧ g = m - k ∧ i = .int .i64 k ∧ c = .int .i64 x ∧ x ≤ n ∧ ∃ O Ow' Sx', PI w wr (some ⟨B, 0, none⟩) m n Ss me Ow' Sx' ∧ Top (scf Ss p) O x k n ∧ (∀ y, y < x → Ow' (pn + y) = (O y : Int) ∧ Sx' y = scf Ss p (O y)) ∧ ∀ y, y < pn → Ow' y = Ow y)
          case atStart => exact ⟨0, 0, Nat.zero_le _, rfl, rfl, rfl, Nat.zero_le _, fun _ => 0, _, _, hP0, top_start _ _ _, fun y hy => absurd hy (by omega), fun y _ => rfl⟩
          case round =>
            obtain ⟨k, x, hk, rfl, rfl, rfl, hxn, O, Ow1, Sx1, hP, hT, hag, hold⟩ := hrel
            clear hP0
            by_cases hlk : k < m
            · have hkz : (k : Int) < (m : Int) := by omega
              have t4 : wr.cell? ⟨w.heap.size + 1, 4, none⟩ = some (.int .i64 n) := by rw [cell_of_row wr _ 4 _ _ _ hP.tab]; rfl
              have g1 : wr.cell? ⟨w.heap.size + 1 + 1, k, none⟩ = some (.int .u64 (hashV (Ss k))) := hP.seeds.cell hlk
              have hsc : scf Ss p k = mixV (bits BinOp.xor IntKind.u64 (hashV (Ss k)) (mixV p)) := rfl
              obtain ⟨sk, hsk⟩ : ∃ sk, scf Ss p k = sk := ⟨_, rfl⟩
              by_cases hxe : x = n
              · obtain rfl : n = x := hxe.symm
                have hxb : ((n : Int) == (n : Int)) = true := by simp
                have g5 : wr.cell? ⟨w.heap.size + 3 + 1, n - 1, none⟩ = some (.int .u64 (Sx1 (n - 1))) := hP.scores.cell (by omega)
                by_cases hle : scf Ss p k ≤ Sx1 (n - 1)
                · have hle' := hle
                  rw [hsc] at hle'
                  have HT := hide hT
                  have HP := hide hP
                  have HAG := hide hag
                  have HO := hide hold
                  have HLE := hide hle
                  clear hT hP hag hold hle hsc hsk
                  go_wp2_with (go_at_call 45; refine (mix_any _ _).mono ?_; rintro e w' ⟨rfl, rfl⟩)
                  go_roundg (m - (k + 1))
                  case measure => omega
                  case rel => exact ⟨k + 1, n, by omega, rfl, by go_num, rfl, Nat.le_refl _, O, Ow1, Sx1, unhide HP, top_skip (unhide HT) hn0 (by rw [← (unhide HAG (n - 1) (by omega)).2]; exact unhide HLE), unhide HAG, unhide HO⟩
                · have hgt : Sx1 (n - 1) < scf Ss p k := by omega
                  have HSK := hide hsk
                  rw [hsc] at hsk
                  have hgt' : ¬ sk ≤ Sx1 (n - 1) := by rw [← hsk, ← hsc]; omega
                  have HT := hide hT
                  have HP := hide hP
                  have HAG := hide hag
                  have HO := hide hold
                  have HGT := hide hgt
                  clear hT hP hag hold hle hsc hgt
                  go_wp2_with (go_at_call 45; refine (mix_any _ _).mono ?_; rintro e w' ⟨rfl, rfl⟩)
                  -- LOOP 4: the place
                  go_loopg [19] (n - 1) (fun g i wr => ∃ j : Nat, j < n ∧ j = g ∧ i = .int .i64 j ∧ ∃ Ow2 Sx2, PI w wr (some ⟨B, 0, none⟩) m n Ss me Ow2 Sx2 ∧ (∀ y, y < n → Sx2 y = shf Sx1 j (n) y) ∧ (∀ y, y < n → Ow2 (pn + y) = shf (fun y => Ow1 (pn + y)) j (n) y) ∧ (∀ y, y < pn → Ow2 y = Ow1 y) ∧ ∀ y, j ≤ y → y + 1 < n → Sx1 y < sk)
                  case atStart => exact ⟨n - 1, by omega, rfl, by first | rfl | go_num, Ow1, Sx1, unhide HP, fun y _ => shf_start Sx1 (n) y, fun y _ => shf_start (fun y => Ow1 (pn + y)) (n) y, fun y _ => rfl, fun y h1 h2 => absurd h2 (by omega)⟩
                  case round =>
                    obtain ⟨j, hj, rfl, rfl, Ow2, Sx2, hP2, hS2, hO2, hold2, hhi⟩ := hrel
                    clear HP
                    have hsc := hP2.scores
                    have how := hP2.owners
                    have f1 := hsc.frozen
                    have f2 := how.frozen
                    cases j with
                    | zero =>
                      have g1 : wr.cell? ⟨w.heap.size + 3 + 1, 0, none⟩ = some (.int .u64 (Sx2 0)) := hsc.cell (by omega)
                      have g2 : wr.cell? ⟨w.heap.size + 3, pn, none⟩ = some (.int .i32 (Ow2 pn)) := how.cell (by omega)
                      have HPL := hide (place hP2 (unhide HSK) (unhide HT) (unhide HAG) (unhide HO) (Nat.le_refl _) (fun h => absurd h (by omega)) (fun _ => ⟨rfl, unhide HGT⟩) hj hS2 hO2 hold2 (.inl rfl) hhi)
                      clear hP2 hS2 hO2 hold2 hhi hsc how HT HAG HO
                      go_wp2
                      go_roundg (m - (k + 1))
                      case measure => omega
                      case rel =>
                        obtain ⟨O', Ow', Sx', e1, e2, e3, e4⟩ := unhide HPL
                        exact ⟨k + 1, n, by omega, rfl, by go_num, by first | rfl | go_num, by omega, O', Ow', Sx', e1, e2, e3, e4⟩
                    | succ j =>
                      have g1 : wr.cell? ⟨w.heap.size + 3 + 1, j + 1, none⟩ = some (.int .u64 (Sx2 (j + 1))) := hsc.cell (by omega)
                      have g2 : wr.cell? ⟨w.heap.size + 3, pn + (j + 1), none⟩ = some (.int .i32 (Ow2 (pn + (j + 1)))) := how.cell (by omega)
                      have g3 : wr.cell? ⟨w.heap.size + 3 + 1, j, none⟩ = some (.int .u64 (Sx2 j)) := hsc.cell (by omega)
                      have g4 : wr.cell? ⟨w.heap.size + 3, pn + j, none⟩ = some (.int .i32 (Ow2 (pn + j))) := how.cell (by omega)
                      have hsj : Sx2 j = Sx1 j := by rw [hS2 j (by omega)]; unfold shf; rw [if_neg (by omega)]
                      by_cases hlt4 : Sx2 j < sk
                      · have HSP := hide (shift_place hP2 (Nat.le_refl _) hj hS2 hO2 hold2)
                        have HHI : Hid (∀ y, j ≤ y → y + 1 < n → Sx1 y < sk) := fun y h1 h2 => by
                          by_cases e : y = j
                          · subst e; rw [← hsj]; exact hlt4
                          · exact hhi y (by omega) h2
                        clear hP2 hS2 hO2 hold2 hhi hsc how hsj HT HAG HO
                        go_wp2_with fail
                        go_region
                        go_wp2
                        go_roundg j
                        case measure => omega
                        case rel =>
                          obtain ⟨Ow', Sx', e1, e2, e3, e4⟩ := unhide HSP
                          exact ⟨j, by omega, rfl, by first | rfl | go_num, Ow', Sx', e1, e2, e3, e4, unhide HHI⟩
                      · have HPL := hide (place hP2 (unhide HSK) (unhide HT) (unhide HAG) (unhide HO) (Nat.le_refl _) (fun h => absurd h (by omega)) (fun _ => ⟨rfl, unhide HGT⟩) hj hS2 hO2 hold2 (.inr (by rw [Nat.add_sub_cancel, ← hsj]; omega)) hhi)
                        clear hP2 hS2 hO2 hold2 hhi hsc how hsj HT HAG HO
                        go_wp2
                        go_roundg (m - (k + 1))
                        case measure => omega
                        case rel =>
                          obtain ⟨O', Ow', Sx', e1, e2, e3, e4⟩ := unhide HPL
                          exact ⟨k + 1, n, by omega, rfl, by go_num, by first | rfl | go_num, by omega, O', Ow', Sx', e1, e2, e3, e4⟩
              · have hxl : x < n := by omega
                have hxb : ((x : Int) == (n : Int)) = false := by simp; omega
                have hxz : (x : Int) < (n : Int) := by omega
                have HSK := hide hsk
                rw [hsc] at hsk
                have HT := hide hT
                have HP := hide hP
                have HAG := hide hag
                have HO := hide hold
                clear hT hP hag hold hsc hxe
                go_wp2_with (go_at_call 45; refine (mix_any _ _).mono ?_; rintro e w' ⟨rfl, rfl⟩)
                -- LOOP 4: the place
                go_loopg [19] (x) (fun g i wr => ∃ j : Nat, j < x + 1 ∧ j = g ∧ i = .int .i64 j ∧ ∃ Ow2 Sx2, PI w wr (some ⟨B, 0, none⟩) m n Ss me Ow2 Sx2 ∧ (∀ y, y < n → Sx2 y = shf Sx1 j (x + 1) y) ∧ (∀ y, y < n → Ow2 (pn + y) = shf (fun y => Ow1 (pn + y)) j (x + 1) y) ∧ (∀ y, y < pn → Ow2 y = Ow1 y) ∧ ∀ y, j ≤ y → y + 1 < x + 1 → Sx1 y < sk)
                case atStart => exact ⟨x, by omega, rfl, by first | rfl | go_num, Ow1, Sx1, unhide HP, fun y _ => shf_start Sx1 (x + 1) y, fun y _ => shf_start (fun y => Ow1 (pn + y)) (x + 1) y, fun y _ => rfl, fun y h1 h2 => absurd h2 (by omega)⟩
                case round =>
                  obtain ⟨j, hj, rfl, rfl, Ow2, Sx2, hP2, hS2, hO2, hold2, hhi⟩ := hrel
                  clear HP
                  have hsc := hP2.scores
                  have how := hP2.owners
                  have f1 := hsc.frozen
                  have f2 := how.frozen
                  cases j with
                  | zero =>
                    have g1 : wr.cell? ⟨w.heap.size + 3 + 1, 0, none⟩ = some (.int .u64 (Sx2 0)) := hsc.cell (by omega)
                    have g2 : wr.cell? ⟨w.heap.size + 3, pn, none⟩ = some (.int .i32 (Ow2 pn)) := how.cell (by omega)
                    have HPL := hide (place hP2 (unhide HSK) (unhide HT) (unhide HAG) (unhide HO) (by omega) (fun _ => rfl) (fun h => absurd hxl h) hj hS2 hO2 hold2 (.inl rfl) hhi)
                    clear hP2 hS2 hO2 hold2 hhi hsc how HT HAG HO
                    go_wp2
                    go_roundg (m - (k + 1))
                    case measure => omega
                    case rel =>
                      obtain ⟨O', Ow', Sx', e1, e2, e3, e4⟩ := unhide HPL
                      exact ⟨k + 1, x + 1, by omega, rfl, by go_num, by first | rfl | go_num, by omega, O', Ow', Sx', e1, e2, e3, e4⟩
                  | succ j =>
                    have g1 : wr.cell? ⟨w.heap.size + 3 + 1, j + 1, none⟩ = some (.int .u64 (Sx2 (j + 1))) := hsc.cell (by omega)
                    have g2 : wr.cell? ⟨w.heap.size + 3, pn + (j + 1), none⟩ = some (.int .i32 (Ow2 (pn + (j + 1)))) := how.cell (by omega)
                    have g3 : wr.cell? ⟨w.heap.size + 3 + 1, j, none⟩ = some (.int .u64 (Sx2 j)) := hsc.cell (by omega)
                    have g4 : wr.cell? ⟨w.heap.size + 3, pn + j, none⟩ = some (.int .i32 (Ow2 (pn + j))) := how.cell (by omega)
                    have hsj : Sx2 j = Sx1 j := by rw [hS2 j (by omega)]; unfold shf; rw [if_neg (by omega)]
                    by_cases hlt4 : Sx2 j < sk
                    · have HSP := hide (shift_place hP2 (by omega) hj hS2 hO2 hold2)
                      have HHI : Hid (∀ y, j ≤ y → y + 1 < x + 1 → Sx1 y < sk) := fun y h1 h2 => by
                        by_cases e : y = j
                        · subst e; rw [← hsj]; exact hlt4
                        · exact hhi y (by omega) h2
                      clear hP2 hS2 hO2 hold2 hhi hsc how hsj HT HAG HO
                      go_wp2_with fail
                      go_region
                      go_wp2
                      go_roundg j
                      case measure => omega
                      case rel =>
                        obtain ⟨Ow', Sx', e1, e2, e3, e4⟩ := unhide HSP
                        exact ⟨j, by omega, rfl, by first | rfl | go_num, Ow', Sx', e1, e2, e3, e4, unhide HHI⟩
                    · have HPL := hide (place hP2 (unhide HSK) (unhide HT) (unhide HAG) (unhide HO) (by omega) (fun _ => rfl) (fun h => absurd hxl h) hj hS2 hO2 hold2 (.inr (by rw [Nat.add_sub_cancel, ← hsj]; omega)) hhi)
                      clear hP2 hS2 hO2 hold2 hhi hsc how hsj HT HAG HO
                      go_wp2
                      go_roundg (m - (k + 1))
                      case measure => omega
                      case rel =>
                        obtain ⟨O', Ow', Sx', e1, e2, e3, e4⟩ := unhide HPL
                        exact ⟨k + 1, x + 1, by omega, rfl, by go_num, by first | rfl | go_num, by omega, O', Ow', Sx', e1, e2, e3, e4⟩
            · obtain rfl : m = k := by omega
              have hkz : ¬ (m : Int) < (m : Int) := by omega
              obtain rfl : n = x := by have := hT.full; have := hT.ck; omega
              have HRS := hide (ranked_step (unhide HR) hT (fun y hy => by have := (hag y hy).1; rw [← unhide HPN] at this; exact this) (fun y hy => hold y (by rw [← unhide HPN]; exact hy)))
              have HP := hide hP
              clear hT hag hold hP HR
              go_wp2
              go_roundg (4096 - (p + 1))
              case measure => omega
              case rel => exact ⟨p + 1, by omega, rfl, by go_num, Ow1, Sx1, unhide HP, unhide HRS⟩
        · obtain rfl : p = 4096 := by omega
          have HF : Hid (TabOk w wr (some ⟨B, 0, none⟩) m n Ss me) := ⟨Ow, Sx, hP, hR⟩
          clear hP hR
          go_wp2
          go_ret
          exact ⟨rfl, unhide HF⟩
end Go.Proofs.Qxb6003791a.Nt
