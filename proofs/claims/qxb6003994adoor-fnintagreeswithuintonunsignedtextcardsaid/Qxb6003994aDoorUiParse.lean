import Derived.Test.Qxb6003994aDoorRows
import Derived.Lib.Strings
import Derived.Lib.Walk
import Derived.Lib.ConvBytes
import Derived.Lib.ParseIntBMem
import Derived.Lib.Hide
import Derived.Laws.Strings3
import Derived.Laws.Closers25
import Derived.Laws.Closers25b
import Derived.WalkKit
import Derived.BigCall
import Derived.BigGuard
set_option linter.unusedVariables false
namespace Go.Proofs.Qxb6003994aDoor.Ui
open Go.RowKit

theorem mval_lt {b M : Nat} (hb2 : b ≤ 64) (hM : M = 2 ^ b - 1) : M < 18446744073709551616 := by
  have h : 2 ^ b ≤ 2 ^ 64 := Nat.pow_le_pow_right (by omega) hb2
  have h1 : 1 ≤ 2 ^ b := Nat.one_le_two_pow
  omega

/-- 'uint64(1)<<uint(bitSize) - 1', for the walk to take. -/
theorem mval {b M : Nat} (hb2 : b ≤ 64) (hM : M = 2 ^ b - 1) : IntKind.u64.wrap (IntKind.u64.wrap ((2 : Int) ^ b) - 1) = (M : Int) := by
  have e : ((2 : Int) ^ b) = ((2 ^ b : Nat) : Int) := by simp
  have h1 : 1 ≤ 2 ^ b := Nat.one_le_two_pow
  rw [e, IntKind.wrap_u64, IntKind.wrap_u64]
  by_cases h : b = 64
  · subst h
    rw [hM]
    decide
  · have h2 : 2 ^ b ≤ 2 ^ 63 := Nat.pow_le_pow_right (by omega) (by omega)
    omega

/-- What parseUintM comes to at a byte that is no digit. -/
def badE : Lib.NumEnd Nat := Lib.parseUintM 0 0 [0]
theorem bad_at (M acc : Nat) (c : UInt8) (r : List UInt8) (h : ¬ (48 ≤ c.toNat ∧ c.toNat ≤ 57)) : Lib.parseUintM M acc (c :: r) = badE := by simp [Lib.parseUintM, h, badE]

theorem lower25 (c : Int) (w : World) : Calls Tryd.prog 25 #[.int .u8 c] w fun e w' => e = .returned (.int .u8 (bits .or .u8 c 32)) ∧ w' = w := by
  go_enter Tryd.func25, Tryd.ntmps25
  go_wp2
  go_ret
  exact ⟨rfl, rfl⟩

set_option maxHeartbeats 8000000 in
set_option maxRecDepth 100000 in
theorem parse21 (b M : Nat) (hb1 : 1 ≤ b) (hb2 : b ≤ 64) (hM : M = 2 ^ b - 1) (t : ByteArray) (hne : t.size ≠ 0) (hmax : t.size ≤ 1048576) (w : World) :
    Calls Tryd.prog 21 #[.string t, .int .i64 10, .int .i64 b] w fun e w' => e = .returned (Lib.uintTupleM 41 M (Lib.parseUintM M 0 t.data.toList)) ∧ w' = Lib.bytesWorld w 5 t := by
  have hemp : t.toList.isEmpty = false := by
    rw [← decide_eq_emptyBytes]
    exact decide_eq_false (fun h => hne (by rw [h]; rfl))
  have hcv := Lib.run_convert_string_bytes (P := Tryd.prog) w 9 43 5 t (u := .string) Tryd.underlying9 Tryd.underlying43 Tryd.underlying5
  have hB : ∀ j, j < t.size → (Lib.bytesWorld w 5 t).cell? ⟨w.heap.size, j, none⟩ = some (.int .u8 (t.data.toList.getD j 0).toNat) := fun j hj => Lib.bytesWorld_cell w 5 t j hj
  obtain ⟨W1, hW1⟩ : ∃ W1, W1 = Lib.bytesWorld w 5 t := ⟨_, rfl⟩
  rw [← hW1] at hcv hB ⊢
  clear hW1
  obtain ⟨bs, hL⟩ : ∃ bs, bs = t.data.toList := ⟨_, rfl⟩
  have hLn : bs.length = t.size := by rw [hL, Lib.size_eq]
  rw [← hL] at hB ⊢
  clear hL
  have hbz : ((b : Int) == 0) = false := beq_eq_false_iff_ne.2 (by omega)
  have hbl : decide ((b : Int) < 0) = false := decide_eq_false (by omega)
  have hbg : decide ((64 : Int) < (b : Int)) = false := decide_eq_false (by omega)
  have hMb : M < 18446744073709551616 := mval_lt hb2 hM
  have hmv := mval hb2 hM
  obtain ⟨mz, hmz⟩ : ∃ mz : Int, (M : Int) = mz := ⟨_, rfl⟩
  rw [hmz] at hmv ⊢
  have hm0 : 0 ≤ mz := by omega
  have hm1 : mz < 18446744073709551616 := by omega
  have HMZ := Lib.hid hmz
  clear hmz hM
  go_enter Tryd.func21, Tryd.ntmps21
  go_wp2_with fail
  go_loop [12, 13, 101] (fun vu vn vi => ∃ (k acc : Nat) (a : Int), vu = .bool false ∧ vn = .int .u64 a ∧ vi = .int .i64 k ∧ k ≤ t.size ∧ RowKit.Hid (a = (acc : Int) ∧ acc ≤ M ∧ Lib.parseUintM M 0 bs = Lib.parseUintM M acc (bs.drop k)))
    (fun _ _ vi => t.size - (RowKit.intOf vi).toNat)
  case atStart => exact ⟨0, 0, 0, rfl, rfl, rfl, by omega, rfl, by omega, rfl⟩
  case round =>
    obtain ⟨k, acc, a, rfl, rfl, rfl, hk, hh⟩ := hrel
    obtain ⟨ha, hacc, hdec⟩ := hh.out
    clear hh
    have hmz := HMZ.out
    have a0 : 0 ≤ a := by omega
    have a1 : a ≤ mz := by omega
    by_cases hkn : k < t.size
    · have hc := hB k hkn
      have hdrop : bs.drop k = bs[k]'(by omega) :: bs.drop (k + 1) := List.drop_eq_getElem_cons (by omega)
      have hget : bs.getD k 0 = bs[k]'(by omega) := by simp [List.getD, List.getElem?_eq_getElem (show k < bs.length by omega)]
      rw [hdrop] at hdec
      rw [hget] at hc
      generalize bs[k]'(by omega) = c at hc hdec
      have hc256 : c.toNat < 256 := c.toNat_lt
      clear hB hdrop hget
      by_cases hdig : 48 ≤ c.toNat ∧ c.toNat ≤ 57
      · obtain ⟨hd0, hd1⟩ := hdig
        by_cases hcut : 1844674407370955162 ≤ acc
        · have hF : Lib.parseUintM M acc (c :: bs.drop (k + 1)) = .range := by simp [Lib.parseUintM, hd0, hd1, hcut]
          rw [hF] at hdec
          have icut : 1844674407370955162 ≤ a := by omega
          clear hcut hacc hF ha hmz
          go_wp2
          go_ret2
          exact ⟨rfl, rfl⟩
        · by_cases hov : M < acc * 10 + (c.toNat - 48)
          · have hF : Lib.parseUintM M acc (c :: bs.drop (k + 1)) = .range := by simp [Lib.parseUintM, hd0, hd1, hcut, hov]
            rw [hF] at hdec
            have icut : a < 1844674407370955162 := by omega
            have iov : mz < a * 10 + ((c.toNat : Int) - 48) := by omega
            by_cases hwrp : 18446744073709551616 ≤ acc * 10 + (c.toNat - 48)
            · have iwr : 18446744073709551616 ≤ a * 10 + ((c.toNat : Int) - 48) := by omega
              have hwr : IntKind.u64.wrap (a * 10 + ((c.toNat : Int) - 48)) = a * 10 + ((c.toNat : Int) - 48) - 18446744073709551616 := by
                rw [IntKind.wrap_u64]
                omega
              clear hcut hacc hF hov ha hmz hwrp
              go_wp2
              go_ret2
              exact ⟨rfl, rfl⟩
            · have iwr : a * 10 + ((c.toNat : Int) - 48) < 18446744073709551616 := by omega
              clear hcut hacc hF hov ha hmz hwrp
              go_wp2
              go_ret2
              exact ⟨rfl, rfl⟩
          · have hF : Lib.parseUintM M acc (c :: bs.drop (k + 1)) = Lib.parseUintM M (acc * 10 + (c.toNat - 48)) (bs.drop (k + 1)) := by simp [Lib.parseUintM, hd0, hd1, hcut, hov]
            have HN : RowKit.Hid (a * 10 + ((c.toNat : Int) - 48) = ((acc * 10 + (c.toNat - 48) : Nat) : Int) ∧ acc * 10 + (c.toNat - 48) ≤ M ∧ Lib.parseUintM M 0 bs = Lib.parseUintM M (acc * 10 + (c.toNat - 48)) (bs.drop (k + 1))) := Lib.hid ⟨by omega, by omega, hdec.trans hF⟩
            have icut : a < 1844674407370955162 := by omega
            have iov : a * 10 + ((c.toNat : Int) - 48) ≤ mz := by omega
            clear hcut hacc hF hov hdec ha hmz
            go_wp2
            refine ⟨⟨k + 1, acc * 10 + (c.toNat - 48), a * 10 + ((c.toNat : Int) - 48), rfl, (by first | rfl | (congr 1; omega)), (by first | rfl | (congr 1; omega)), by omega, HN⟩, by simp [intOf]; omega⟩
      · have hF := bad_at M acc c (bs.drop (k + 1)) hdig
        rw [hF] at hdec
        clear hacc hF ha hmz
        have hv0 := bits_lo_u8 .or (c.toNat : Int) 32
        have hv1 := bits_hi_u8 .or (c.toNat : Int) 32
        have hu0 := bits_lo_u8 .or 95 32
        have hu1 := bits_hi_u8 .or 95 32
        go_wp2_with (go_at_call 25; refine (lower25 _ _).mono ?_; rintro e w' ⟨rfl, rfl⟩)
        all_goals go_ret2
        all_goals first | exact ⟨rfl, rfl⟩ | exact ⟨by rw [hdec]; rfl, rfl⟩
    · have hkk : k = t.size := by omega
      subst hkk
      have hF : Lib.parseUintM M acc (bs.drop t.size) = .ok acc := by rw [List.drop_eq_nil_of_le (by omega)]; rfl
      rw [hF] at hdec
      subst ha
      clear hacc hF a0 a1 hmz
      go_wp2
      go_ret2
      exact ⟨rfl, rfl⟩
end Go.Proofs.Qxb6003994aDoor.Ui
