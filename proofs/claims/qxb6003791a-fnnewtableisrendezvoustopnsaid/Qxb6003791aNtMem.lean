import Derived.Test.Qxb6003791aNtAcc
set_option linter.unusedVariables false
namespace Go.Proofs.Qxb6003791a.Nt
open Go.RowKit

/-- The others, as a slice value with its cells by their index. -/
theorem owns_form {w : World} {base : Nat} {v : Value} {l : List Int} (h : w.ownsRow base 3 1 v l.length (l.map (Value.int .i64))) :
    ∃ A C g, v = .slice A l.length C ∧ (0 < l.length → A = some ⟨g, 0, none⟩ ∧ g < w.heap.size) ∧ ∀ j x, l[j]? = some x → w.cell? ⟨g, j, none⟩ = some (.int .i64 x) := by
  rcases h.2 with ⟨hv, hx⟩ | ⟨g, cap, cur, hv, hg, hh, r⟩
  · have hl : l = [] := by simpa using hx
    subst hl
    exact ⟨none, 0, 0, hv, fun hh => absurd hh (by simp), fun j x hj => by simp at hj⟩
  · have hlt : g < w.heap.size := (Array.getElem?_eq_some_iff.1 hh).1
    refine ⟨some ⟨g, 0, none⟩, cap, g, hv, fun _ => ⟨rfl, hlt⟩, fun j x hj => ?_⟩
    subst hv
    have hjl : j < l.length := (List.getElem?_eq_some_iff.1 hj).1
    have := h.cellAt j (by omega)
    rw [this, List.getElem?_map, hj]
    rfl

/-- The law's own three rows. -/
structure SI (w wr : World) (m : Nat) (Ss : Nat → ByteArray) (U : Nat → Bool) (S : Nat → Int) : Prop where
  below : Below w.heap.size w wr
  size : wr.heap.size = w.heap.size + 3
  seeds : wr.rowIs w.heap.size 34 m (fun i => .int .u64 (hashV (Ss i)))
  scores : wr.rowIs (w.heap.size + 1) 34 m (fun i => .int .u64 (S i))
  used : wr.rowIs (w.heap.size + 2) 4 m (fun i => .bool (U i))

theorem si_start {w wr : World} {m : Nat} {Ss : Nat → ByteArray} (hb : Below w.heap.size w wr) (hs : wr.heap.size = w.heap.size + 1) (hr : wr.rowIs w.heap.size 34 m (fun i => .int .u64 (hashV (Ss i)))) :
    SI w ((wr.alloc (.cells (madeCells #[.int .u64 0] m) 34)).alloc (.cells (madeCells #[.bool false] m) 4)) m Ss (fun _ => false) (fun _ => 0) := by
  have r1 := World.rowIs_made wr (.int .u64 0) m 34
  have e : (wr.alloc (.cells (madeCells #[.int .u64 0] m) 34)).heap.size = w.heap.size + 2 := by simp [hs]
  have r2 := World.rowIs_made (wr.alloc (.cells (madeCells #[.int .u64 0] m) 34)) (.bool false) m 4
  rw [hs] at r1
  rw [e] at r2
  exact ⟨(hb.alloc (by omega) _).alloc (by omega) _, by simp [hs], (hr.alloc _).alloc _, r1.alloc _, r2⟩

theorem si_drewN {w wr : World} {m : Nat} {Ss : Nat → ByteArray} {U : Nat → Bool} {S : Nat → Int} (h : SI w wr m Ss U S) (q : Nat) : SI w (wr.drewN q) m Ss U S := by
  induction q with
  | zero => exact h
  | succ q ih => exact ⟨ih.below.drew, ih.size, ih.seeds, ih.scores, ih.used⟩

theorem si_both {w wr : World} {m : Nat} {Ss : Nat → ByteArray} {U : Nat → Bool} {S : Nat → Int} (h : SI w wr m Ss U S) (k : Nat) (v : Int) (u : Bool) :
    SI w ((wr.setCell ⟨w.heap.size + 1, k, none⟩ (.int .u64 v)).setCell ⟨w.heap.size + 2, k, none⟩ (.bool u)) m Ss (fun i => if i = k then u else U i) (fun i => if i = k then v else S i) := by
  refine ⟨(h.below.setCell (by show w.heap.size ≤ w.heap.size + 1; omega) _).setCell (by show w.heap.size ≤ w.heap.size + 2; omega) _, by simp [World.setCell, h.size], ?_, ?_, ?_⟩
  · exact (h.seeds.setOther (by show w.heap.size ≠ w.heap.size + 1; omega) _).setOther (by show w.heap.size ≠ w.heap.size + 2; omega) _
  · exact ((h.scores.set k _).setOther (by show w.heap.size + 1 ≠ w.heap.size + 2; omega) _).congr (fun i _ => by split <;> rfl)
  · exact ((h.used.setOther (by show w.heap.size + 2 ≠ w.heap.size + 1; omega) _).set k _).congr (fun i _ => by split <;> rfl)

theorem si_used {w wr : World} {m : Nat} {Ss : Nat → ByteArray} {U : Nat → Bool} {S : Nat → Int} (h : SI w wr m Ss U S) (k : Nat) (u : Bool) :
    SI w (wr.setCell ⟨w.heap.size + 2, k, none⟩ (.bool u)) m Ss (fun i => if i = k then u else U i) S := by
  refine ⟨h.below.setCell (by show w.heap.size ≤ w.heap.size + 2; omega) _, by simp [World.setCell, h.size], ?_, ?_, ?_⟩
  · exact h.seeds.setOther (by show w.heap.size ≠ w.heap.size + 2; omega) _
  · exact h.scores.setOther (by show w.heap.size + 1 ≠ w.heap.size + 2; omega) _
  · exact (h.used.set k _).congr (fun i _ => by split <;> rfl)

/-- The seeds, k of them laid. -/
structure DI (w wr : World) (m k : Nat) (Ss : Nat → ByteArray) : Prop where
  below : Below w.heap.size w wr
  size : wr.heap.size = w.heap.size + 1
  row : wr.rowIs w.heap.size 34 m (fun i => if i < k then .int .u64 (hashV (Ss i)) else .int .u64 0)

theorem di_start (w : World) (m : Nat) (Ss : Nat → ByteArray) : DI w (w.alloc (.cells (madeCells #[.int .u64 0] m) 34)) m 0 Ss :=
  ⟨(Below.refl _ _).alloc (Nat.le_refl _) _, by simp, (World.rowIs_made w _ m 34).congr (fun j _ => by simp)⟩

theorem di_step {w wr : World} {m k : Nat} {Ss : Nat → ByteArray} (h : DI w wr m k Ss) : DI w (wr.setCell ⟨w.heap.size, k, none⟩ (.int .u64 (hashV (Ss k)))) m (k + 1) Ss := by
  refine ⟨h.below.setCell (Nat.le_refl _) _, by simp [World.setCell, h.size], (h.row.set k _).congr (fun j _ => ?_)⟩
  by_cases ej : j = k
  · subst ej; simp
  · rw [if_neg ej]
    by_cases hlt : j < k
    · rw [if_pos hlt, if_pos (by omega)]
    · rw [if_neg hlt, if_neg (by omega)]

/-- A cell that the law only reads stays as it was. -/
theorem SI.cell {w wr : World} {m : Nat} {Ss : Nat → ByteArray} {U : Nat → Bool} {S : Nat → Int} (h : SI w wr m Ss U S) {b o : Nat} (hb : b < w.heap.size) : wr.cell? ⟨b, o, none⟩ = w.cell? ⟨b, o, none⟩ := h.below.cell (p := ⟨b, o, none⟩) hb

/-- best, as the search holds it. -/
def bestI : Option Nat → Int
  | none => -1
  | some b => b
end Go.Proofs.Qxb6003791a.Nt
