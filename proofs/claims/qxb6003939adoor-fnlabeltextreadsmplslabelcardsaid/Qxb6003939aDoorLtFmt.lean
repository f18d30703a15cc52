import Derived.Test.Qxb6003939aDoorRows
import Derived.Test.Qxb6003939aDoorLtShP
import Derived.Lib.Walk
import Derived.Lib.ItoaMem
import Derived.WalkKit
import Derived.BigCall
import Derived.BigGuard
import Derived.Below
import Derived.Deep.LoopGhost
set_option linter.unusedVariables false
namespace Go.Proofs.Qxb6003939aDoor.Lt
open Go.RowKit Go.Sort Go.Lib

def Hid (p : Prop) : Prop := p
theorem hide {p : Prop} (h : p) : Hid p := h
theorem unhide {p : Prop} (h : Hid p) : p := h

/-- The listed table of powers of ten, by the row's own name for it. -/
def powName : String := Rows.fnLabelTextDecimalBothReadingsRow.named.headD ""
def PowTab (w : World) : Prop := Lib.TabIs Tryd.prog w powName .u64 Lib.pow10Tab

theorem numDigits13 (u : Nat) (h1 : 1 ≤ u) (h2 : u < 18446744073709551616) (w : World) (htab : PowTab w) :
    Calls Tryd.prog 13 #[.int .u64 u] w fun e w' => e = .returned (.int .i64 (Lib.nDigits u)) ∧ w' = w := Any.internal_strconv_numDigits Tryd.laysM284 u h1 h2 w htab

theorem holds_zero (w : World) (T : TypeId) (nd : Nat) (hs : nd ≤ 24) : Holds (fun (b : UInt8) => Value.int .u8 (b.toNat : Int)) (w.alloc (.cells Lib.zeros24 T)) w.heap.size 0 (Array.replicate nd (0 : UInt8)) := fun j hj => by
  have hj' : j < nd := by simpa using hj
  refine ⟨?_, World.frozen?_alloc_new _ _ _ _⟩
  rw [World.cell?_alloc_new, Lib.zeros24_at _ (by omega), getElem!_pos _ j hj]
  simp

theorem below_put (w : World) (o : Obj) (dk : Array UInt8) (f : UInt8 → Value) (k : Nat) : Below w.heap.size w ((putRow f (w.alloc o) w.heap.size 0 dk).drewN k) := by
  have hb := (Below.refl w.heap.size w).alloc (Nat.le_refl _) o
  refine ⟨rfl, rfl, rfl, ?_, fun j hj => ?_⟩
  · show w.heap.size ≤ (putRow f (w.alloc o) w.heap.size 0 dk).heap.size
    simp [putRow, mapBlock]
  · show (putRow f (w.alloc o) w.heap.size 0 dk).heap[j]? = w.heap[j]?
    rw [← hb.block j hj]
    have hne : w.heap.size ≠ j := by omega
    simp [putRow, mapBlock, Array.getElem?_modify, hne]

set_option maxHeartbeats 4000000 in
set_option maxRecDepth 100000 in
/-- internal/strconv.FormatUint at base 10. -/
theorem fmt11 (u : Nat) (hu64 : u < 18446744073709551616) (w : World) (htab : PowTab w) :
    Calls Tryd.prog 11 #[.int .u64 u, .int .i64 10] w fun e w' => e = .returned (.string ⟨(Lib.decDigits u).toArray⟩) ∧ Below w.heap.size w w' := by
  by_cases hs : u < 100
  · have K := hide (Tryd.strconv_small u hs w)
    clear htab
    go_enter Tryd.func11, Tryd.ntmps11
    go_wp2_with fail
    refine (unhide K).mono ?_
    rintro e w' ⟨rfl, rfl⟩
    clear K
    go_wp2
    go_ret
    exact ⟨rfl, Below.refl _ _⟩
  · have hu1 : 1 ≤ u := by omega
    have hnd20 : Lib.nDigits u ≤ 20 := by have := Lib.numDigits_eq u hu1 hu64; split at this <;> omega
    have hal : Tryd.prog.arrayLen 36 = 24 := by kernel_rfl
    have hsl : ∀ W, (Instr.sliceAt 36 (.pointer (some ⟨w.heap.size, 0, none⟩)) none (some (.int .i64 (Lib.nDigits u : Int))) none).run Tryd.prog W = .ok (.slice (some ⟨w.heap.size, 0, none⟩) (Lib.nDigits u) 24) W := fun W => by
      rw [run_sliceAt_array_h W 36 ⟨w.heap.size, 0, none⟩ (by simp [Program.arrayLen, Program.elem, Tryd.underlying36]) .i64 (Lib.nDigits u : Int) (by omega) (by rw [hal]; omega)]
      go_simp
    have hH0 := holds_zero w 36 (Lib.nDigits u) (by omega)
    have hfmt := Tryd.strconv_formatBase10 w.heap.size 0 24 u (Array.replicate (Lib.nDigits u) 0) (w.alloc (.cells Lib.zeros24 36)) hH0 (by rw [Array.size_replicate]; exact Lib.lt_pow_nDigits u) hu64 (by rw [Array.size_replicate]; omega)
    rw [Array.size_replicate] at hfmt
    have HF := hide hfmt
    have HH0 := hide hH0
    have HT := hide htab
    clear hH0 hal hfmt htab
    go_enter Tryd.func11, Tryd.ntmps11
    go_wp2_with fail
    refine (numDigits13 u hu1 hu64 (w.alloc (.cells Lib.zeros24 36)) (Lib.tabIs_alloc (unhide HT) _)).mono ?_
    rintro e w' ⟨rfl, rfl⟩
    go_wp2_with fail
    refine (unhide HF).mono ?_
    rintro e w' ⟨rfl, k, v', dk, rfl, hF⟩
    have hcv : (convert 39 9 (.slice (some ⟨w.heap.size, 0, none⟩) (Lib.nDigits u) 24)).run Tryd.prog ((putRow (fun (b : UInt8) => Value.int .u8 (b.toNat : Int)) (w.alloc (.cells Lib.zeros24 36)) w.heap.size 0 dk).drewN k) = .ok (.string ⟨(Lib.decDigits u).toArray⟩) ((putRow (fun (b : UInt8) => Value.int .u8 (b.toNat : Int)) (w.alloc (.cells Lib.zeros24 36)) w.heap.size 0 dk).drewN k) := by
      have h := run_convert_bytes_back (P := Tryd.prog) ((putRow (fun (b : UInt8) => Value.int .u8 (b.toNat : Int)) (w.alloc (.cells Lib.zeros24 36)) w.heap.size 0 dk).drewN k) 39 9 5 ⟨w.heap.size, 0, none⟩ 24 (Lib.decDigits u) Tryd.underlying39 Tryd.underlying5 Tryd.underlying9 (fun j hj => by
        rw [Lib.row_is_numeral hF j hj, Lib.add_plain, World.cell?_drewN]
        exact cell?_putRow (fun (b : UInt8) => Value.int .u8 (b.toNat : Int)) _ w.heap.size 0 _ dk (unhide HH0) (by rw [hF.size, Array.size_replicate]) j (by rw [hF.size]; rw [Lib.decDigits_length] at hj; exact hj))
      rw [Lib.decDigits_length] at h
      exact h
    have HB := hide (below_put w (.cells Lib.zeros24 36) dk (fun (b : UInt8) => Value.int .u8 (b.toNat : Int)) k)
    clear hF HF HH0 HT
    generalize (putRow (fun (b : UInt8) => Value.int .u8 (b.toNat : Int)) (w.alloc (.cells Lib.zeros24 36)) w.heap.size 0 dk).drewN k = wf at hcv HB
    go_wp2
    go_ret
    exact ⟨rfl, unhide HB⟩

/-- strconv.FormatUint at base 10. -/
theorem fmt9 (u : Nat) (hu64 : u < 18446744073709551616) (w : World) (htab : PowTab w) :
    Calls Tryd.prog 9 #[.int .u64 u, .int .i64 10] w fun e w' => e = .returned (.string ⟨(Lib.decDigits u).toArray⟩) ∧ Below w.heap.size w w' := by
  have K := hide (fmt11 u hu64 w htab)
  clear htab
  go_enter Tryd.func9, Tryd.ntmps9
  go_wp2_with fail
  refine (unhide K).mono ?_
  rintro e w' ⟨rfl, hB⟩
  have HB := hide hB
  clear hB K
  go_wp2
  go_ret
  exact ⟨rfl, unhide HB⟩
end Go.Proofs.Qxb6003939aDoor.Lt
