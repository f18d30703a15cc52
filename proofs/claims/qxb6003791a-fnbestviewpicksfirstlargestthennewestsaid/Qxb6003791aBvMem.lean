import Derived.Test.Qxb6003791aBvPlain
namespace Go.Proofs.Qxb6003791a.Bv
open Go.RowKit

/-- Block b is a row of m cells that may be written. -/
def isRow (w : World) (b : Nat) (t : TypeId) (m : Nat) : Prop := ∃ c : Array Value, w.heap[b]? = some (.cells c t (0, 0)) ∧ c.size = m

theorem isRow.cell {w : World} {b m : Nat} {t : TypeId} (h : isRow w b t m) {j : Nat} (hj : j < m) : ∃ v, w.cell? ⟨b, j, none⟩ = some v := by
  obtain ⟨c, hb, hs⟩ := h
  exact ⟨c[j]'(by omega), by rw [cell_of_row w b j c t (0, 0) hb]; simp⟩

theorem isRow.frozen {w : World} {b m : Nat} {t : TypeId} (h : isRow w b t m) (j : Nat) : w.frozen? ⟨b, j, none⟩ = false := by
  obtain ⟨c, hb, _⟩ := h
  exact frozen_of_row w b j c t hb

theorem isRow.there {w : World} {b m : Nat} {t : TypeId} (h : isRow w b t m) {o n : Nat} (ho : o + n ≤ m) : w.there b o n := fun j hj => by
  obtain ⟨v, hv⟩ := h.cell (j := o + j) (by omega)
  exact ⟨by rw [hv]; rfl, h.frozen _⟩

theorem isRow.of_block {w w' : World} {b m : Nat} {t : TypeId} (h : isRow w b t m) (e : w'.heap[b]? = w.heap[b]?) : isRow w' b t m := by
  obtain ⟨c, hb, hs⟩ := h
  exact ⟨c, e.trans hb, hs⟩

theorem isRow.lt {w : World} {b m : Nat} {t : TypeId} (h : isRow w b t m) : b < w.heap.size := by
  obtain ⟨c, hb, _⟩ := h
  exact (Array.getElem?_eq_some_iff.1 hb).1

theorem isRow.below {w w' : World} {b m B : Nat} {t : TypeId} (h : isRow w b t m) (hb : Below B w w') (hB : b < B) : isRow w' b t m := h.of_block (hb.block b hB)

theorem isRow.setCell {w : World} {b m : Nat} {t : TypeId} (h : isRow w b t m) (b' o : Nat) (v : Value) : isRow (w.setCell ⟨b', o, none⟩ v) b t m := by
  by_cases e : b = b'
  · subst e
    obtain ⟨c, hb, hs⟩ := h
    exact ⟨_, heap_setCell_same w b o c t v hb, by simpa using hs⟩
  · exact h.of_block (Below.heap_setCell _ _ _ _ e)

theorem isRow.setCells {b m : Nat} {t : TypeId} (b' : Nat) : ∀ (vs : List Value) (o : Nat) {w : World}, isRow w b t m → isRow (w.setCells b' o vs) b t m
  | [], _, _, h => h
  | v :: r, o, _, h => isRow.setCells b' r (o + 1) (h.setCell b' o v)

theorem below_setCells {B b : Nat} {w0 : World} (hB : B ≤ b) : ∀ (vs : List Value) (o : Nat) {w : World}, Below B w0 w → Below B w0 (w.setCells b o vs)
  | [], _, _, h => h
  | v :: r, o, _, h => below_setCells hB r (o + 1) (h.setCell hB v)

theorem size_setCells (b : Nat) : ∀ (vs : List Value) (o : Nat) (w : World), (w.setCells b o vs).heap.size = w.heap.size
  | [], _, _ => rfl
  | v :: r, o, w => by rw [World.setCells, size_setCells b r (o + 1)]; simp [World.setCell]

theorem rangeAt_below {w w' : World} {B b o : Nat} {cs : List Value} (h : w.rangeAt b o cs) (hb : Below B w w') (hB : b < B) : w'.rangeAt b o cs := fun j v hv => by
  rw [hb.cell (p := ⟨b, o + j, none⟩) hB]; exact h j v hv

/-- A clone's row, read in a later world. -/
theorem row_at {wx wy : World} {B : Nat} {t : TypeId} {len n : Nat} {q : Option Addr} {V : Nat → Value} (hr : 0 < len → q = some ⟨B, 0, none⟩ ∧ wx.rowIs B t len V) (hb : Below wx.heap.size wx wy) (hn : n ≤ len) :
    (0 < n → q = some ⟨B, 0, none⟩) ∧ (0 < n → B < wy.heap.size) ∧ ∀ i, i < n → wy.cell? ⟨B, i, none⟩ = some (V i) := by
  refine ⟨fun h => (hr (by omega)).1, fun h => ?_, fun i hi => ?_⟩
  · have := (hr (by omega)).2.lt
    have := hb.size
    omega
  · have hl := (hr (by omega)).2.lt
    rw [hb.cell (p := ⟨B, i, none⟩) hl]
    exact (hr (by omega)).2.cell (by omega)

/-! ### make -/
def obj39 (n : Nat) : Obj := .cells (madeCells #[.string ⟨#[]⟩, .int .u64 0, .slice none 0 0, .int .u64 0, .map none] (n * 5)) 39
def obj46 (n : Nat) : Obj := .cells (madeCells #[.string ⟨#[]⟩, .string ⟨#[]⟩, .string ⟨#[]⟩, .string ⟨#[]⟩, .int .u64 0, .string ⟨#[]⟩, .pointer none, .string ⟨#[]⟩] (n * 8)) 46
def obj36 (n : Nat) : Obj := .cells (madeCells #[.string ⟨#[]⟩, .string ⟨#[]⟩, .int .u64 0] (n * 3)) 36

theorem info39 : (Try.prog.info? 39).map (fun i => (i.zero, i.size, i.bytes)) = some (some (.agg #[.string ⟨#[]⟩, .int .u64 0, .slice none 0 0, .int .u64 0, .map none]), 5, 64) := by kernel_rfl
theorem info46 : (Try.prog.info? 46).map (fun i => (i.zero, i.size, i.bytes)) = some (some (.agg #[.string ⟨#[]⟩, .string ⟨#[]⟩, .string ⟨#[]⟩, .string ⟨#[]⟩, .int .u64 0, .string ⟨#[]⟩, .pointer none, .string ⟨#[]⟩]), 8, 112) := by kernel_rfl
theorem info36 : (Try.prog.info? 36).map (fun i => (i.zero, i.size, i.bytes)) = some (some (.agg #[.string ⟨#[]⟩, .string ⟨#[]⟩, .int .u64 0]), 3, 40) := by kernel_rfl

theorem make31 (n : Nat) (hn : n ≤ 1024) (w : World) : (Instr.makeSlice 31 (.int .i64 (n : Int)) (.int .i64 (n : Int))).run Try.prog w = .ok (.slice (some ⟨w.heap.size, 0, none⟩) n n) (w.alloc (obj39 n)) := by
  obtain ⟨i, hi, hz, hs, hb⟩ := info_parts info39
  have h := run_make (P := Try.prog) w 31 39 i _ Try.underlying31 hi hz .i64 .i64 n n (by omega) (Int.le_refl _) (by rw [hb]; omega) (by omega)
  rw [hs] at h
  simpa [obj39, Value.cells] using h
theorem make32 (n : Nat) (hn : n ≤ 1024) (w : World) : (Instr.makeSlice 32 (.int .i64 (n : Int)) (.int .i64 (n : Int))).run Try.prog w = .ok (.slice (some ⟨w.heap.size, 0, none⟩) n n) (w.alloc (obj46 n)) := by
  obtain ⟨i, hi, hz, hs, hb⟩ := info_parts info46
  have h := run_make (P := Try.prog) w 32 46 i _ Try.underlying32 hi hz .i64 .i64 n n (by omega) (Int.le_refl _) (by rw [hb]; omega) (by omega)
  rw [hs] at h
  simpa [obj46, Value.cells] using h
theorem make33 (n : Nat) (hn : n ≤ 1024) (w : World) : (Instr.makeSlice 33 (.int .i64 (n : Int)) (.int .i64 (n : Int))).run Try.prog w = .ok (.slice (some ⟨w.heap.size, 0, none⟩) n n) (w.alloc (obj36 n)) := by
  obtain ⟨i, hi, hz, hs, hb⟩ := info_parts info36
  have h := run_make (P := Try.prog) w 33 36 i _ Try.underlying33 hi hz .i64 .i64 n n (by omega) (Int.le_refl _) (by rw [hb]; omega) (by omega)
  rw [hs] at h
  simpa [obj36, Value.cells] using h

theorem row39 (w : World) (n : Nat) : isRow (w.alloc (obj39 n)) w.heap.size 39 (n * 5) := ⟨_, heap_alloc_new _ _, size_madeCells _ _⟩
theorem row46 (w : World) (n : Nat) : isRow (w.alloc (obj46 n)) w.heap.size 46 (n * 8) := ⟨_, heap_alloc_new _ _, size_madeCells _ _⟩
theorem row36 (w : World) (n : Nat) : isRow (w.alloc (obj36 n)) w.heap.size 36 (n * 3) := ⟨_, heap_alloc_new _ _, size_madeCells _ _⟩

/-! ### the views -/
def viewL (id : Int) (b c : Nat) : List Value := [.string ⟨#[99]⟩, .int .u64 id, .slice (some ⟨b, 0, none⟩) c c, .int .u64 0, .map none]

structure VI (w wr : World) (n k : Nat) (Id : Nat → Int) (Cn : Nat → Nat) : Prop where
  below : Below w.heap.size w wr
  size : wr.heap.size = w.heap.size + 2 + k
  vrow : isRow wr w.heap.size 39 (n * 5)
  arow : isRow wr (w.heap.size + 1) 46 (n * 8)
  done : ∀ i, i < k → wr.rangeAt w.heap.size (i * 5) (viewL (Id i) (w.heap.size + 2 + i) (Cn i))

theorem vi_start (w : World) (n : Nat) (Id : Nat → Int) (Cn : Nat → Nat) : VI w ((w.alloc (obj39 n)).alloc (obj46 n)) n 0 Id Cn := by
  have h1 := row39 w n
  have h2 := row46 (w.alloc (obj39 n)) n
  have e : (w.alloc (obj39 n)).heap.size = w.heap.size + 1 := by simp
  rw [e] at h2
  exact ⟨((Below.refl _ _).alloc (Nat.le_refl _) _).alloc (by simp) _, by simp, h1.of_block (Below.heap_alloc _ _ _ (by simp)), h2, fun _ hi => absurd hi (Nat.not_lt_zero _)⟩

theorem vi_step {w wr wi : World} {n k : Nat} {Id : Nat → Int} {Cn : Nat → Nat} (h : VI w wr n k Id Cn) (hk : k < n) (hb : Below wr.heap.size wr wi) (hs : wi.heap.size = wr.heap.size + 1) :
    VI w (wi.setCells w.heap.size (k * 5) (viewL (Id k) (w.heap.size + 2 + k) (Cn k))) n (k + 1) Id Cn := by
  have hsz := h.size
  have v' : isRow wi w.heap.size 39 (n * 5) := h.vrow.below hb (by omega)
  refine ⟨below_setCells (Nat.le_refl _) _ _ (h.below.trans (hb.mono (by omega))), by rw [size_setCells]; omega, isRow.setCells _ _ _ v', isRow.setCells _ _ _ (h.arow.below hb (by omega)), fun i hi => ?_⟩
  by_cases e : i = k
  · subst e
    exact World.rangeAt_setCells_same _ _ _ _ (v'.there (by simp [viewL]; omega))
  · refine World.rangeAt_setCells_apart (rangeAt_below (h.done i (by omega)) hb (by omega)) _ _ _ ?_
    right; left; simp [viewL]; omega

theorem vi_step' {w wr wi : World} {n k : Nat} {Id : Nat → Int} {Cn : Nat → Nat} {c : Nat} (h : VI w wr n k Id Cn) (hk : k < n) (hb : Below wr.heap.size wr wi) (hs : wi.heap.size = wr.heap.size + 1) (hc : Cn k = c) :
    VI w (((((wi.setCell ⟨w.heap.size, k * 5, none⟩ (.string ⟨#[99]⟩)).setCell ⟨w.heap.size, k * 5 + 1, none⟩ (.int .u64 (Id k))).setCell ⟨w.heap.size, k * 5 + 2, none⟩ (.slice (some ⟨wr.heap.size, 0, none⟩) c c)).setCell
      ⟨w.heap.size, k * 5 + 3, none⟩ (.int .u64 0)).setCell ⟨w.heap.size, k * 5 + 4, none⟩ (.map none)) n (k + 1) Id Cn := by
  have := vi_step h hk hb hs
  rw [hc, ← h.size] at this
  exact this

theorem stName_ne {x : Int} (h : ¬ x % 4 = 0) : ¬ (stName x).toList = [109, 101, 109, 98, 101, 114] := by
  simp only [stName]
  rw [if_neg h]
  split
  · decide +kernel
  · split <;> decide +kernel

theorem got_of_best {E : Nat → Bool} {C : Nat → Nat} {I : Nat → Int} {n V : Nat} {Z0 : Nat → Int} {Z1 : Nat → Bool} (hEv : ∀ i, E i = (Z0 i % 4 == 0 && Z1 i)) :
    ∃ p, (bestTo E C I n = none → p = none) ∧ (∀ b, bestTo E C I n = some b → p = some ⟨V, b * 5, none⟩) ∧ ∃ ad st, bestArr (fun i => stName (Z0 i)) (fun i => if Z1 i = true then some ⟨V, i * 5, none⟩ else none) (bestTo E C I n) = ansArr ad st p := by
  cases ho : bestTo E C I n with
  | none => exact ⟨none, fun _ => rfl, fun b h => (by cases h), _, _, rfl⟩
  | some b =>
    refine ⟨some ⟨V, b * 5, none⟩, fun h => (by cases h), fun b' h => (by cases h; rfl), ⟨#[97]⟩, stName (Z0 b), ?_⟩
    have hEb := (bestTo_lt ho).2
    rw [hEv, Bool.and_eq_true] at hEb
    simp [bestArr, hEb.2]

/-! ### the answers -/
structure AI (w2 wr : World) (N n k : Nat) (St : Nat → ByteArray) (Vp : Nat → Option Addr) : Prop where
  below : Below (N + 1) w2 wr
  size : w2.heap.size ≤ wr.heap.size
  arow : isRow wr (N + 1) 46 (n * 8)
  done : ∀ i, i < k → wr.rangeAt (N + 1) (i * 8) (ansArr ⟨#[97]⟩ (St i) (Vp i)).toList

theorem ai_start {w2 : World} {N n : Nat} (h : isRow w2 (N + 1) 46 (n * 8)) (St : Nat → ByteArray) (Vp : Nat → Option Addr) : AI w2 w2 N n 0 St Vp :=
  ⟨Below.refl _ _, Nat.le_refl _, h, fun _ hi => absurd hi (Nat.not_lt_zero _)⟩

theorem ai_step {w2 wr : World} {N n k : Nat} {St : Nat → ByteArray} {Vp : Nat → Option Addr} (h : AI w2 wr N n k St Vp) (hk : k < n) :
    AI w2 (wr.setCells (N + 1) (k * 8) (ansArr ⟨#[97]⟩ (St k) (Vp k)).toList) N n (k + 1) St Vp := by
  have hsz := h.size
  refine ⟨below_setCells (Nat.le_refl _) _ _ h.below, by rw [size_setCells]; omega, isRow.setCells _ _ _ h.arow, fun i hi => ?_⟩
  by_cases e : i = k
  · subst e
    exact World.rangeAt_setCells_same _ _ _ _ (h.arow.there (by simp [ansArr]; omega))
  · refine World.rangeAt_setCells_apart (h.done i (by omega)) _ _ _ ?_
    right; left; simp [ansArr]; omega

theorem ai_alloc {w2 wr : World} {N n k : Nat} {St : Nat → ByteArray} {Vp : Nat → Option Addr} (h : AI w2 wr N n k St Vp) (o : Obj) : AI w2 (wr.alloc o) N n k St Vp := by
  have hl := h.arow.lt
  exact ⟨h.below.alloc (by omega) _, by have := h.size; simp; omega, h.arow.of_block (Below.heap_alloc _ _ _ hl), fun i hi => World.rangeAt_alloc (h.done i hi) _⟩

theorem ai_step' {w2 wr : World} {N n k : Nat} {St : Nat → ByteArray} {Vp : Nat → Option Addr} (h : AI w2 wr N n k St Vp) (hk : k < n) (o : Obj) {s : ByteArray} {p : Option Addr} (hs : St k = s) (hp : Vp k = p) :
    AI w2 (((((((((wr.setCell ⟨N + 1, k * 8, none⟩ (.string ⟨#[97]⟩)).setCell ⟨N + 1, k * 8 + 1, none⟩ (.string ⟨#[]⟩)).setCell ⟨N + 1, k * 8 + 2, none⟩ (.string ⟨#[]⟩)).setCell ⟨N + 1, k * 8 + 3, none⟩ (.string ⟨#[]⟩)).setCell
      ⟨N + 1, k * 8 + 4, none⟩ (.int .u64 0)).setCell ⟨N + 1, k * 8 + 5, none⟩ (.string s)).setCell ⟨N + 1, k * 8 + 6, none⟩ (.pointer p)).setCell ⟨N + 1, k * 8 + 7, none⟩ (.string ⟨#[]⟩)).alloc o) N n (k + 1) St Vp := by
  refine ai_alloc ?_ o
  have := ai_step h hk
  rw [hs, hp] at this
  exact this
end Go.Proofs.Qxb6003791a.Bv
