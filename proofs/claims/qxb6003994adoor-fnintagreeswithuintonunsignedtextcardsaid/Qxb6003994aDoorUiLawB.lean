import Derived.Test.Qxb6003994aDoorUiPint
import Derived.Test.Qxb6003994aDoorUiUint
set_option linter.unusedVariables false
namespace Go.Proofs.Qxb6003994aDoor.Ui
open Go.RowKit

theorem zz15 (s : ByteArray) (b : Int) (hs : s.size ≤ 1048576) (w : World) :
    Calls Tryd.prog 15 #[.string s, .int .i64 b] w fun e w' => e = .returned (.bool true) ∧ w = w' := by
  have b1 : decide ((1048576 : Int) < (s.size : Int)) = false := decide_eq_false (by omega)
  go_enter Tryd.func15, Tryd.ntmps15
  go_wp2_with fail
  go_ret
  exact ⟨rfl, rfl⟩
theorem zz15_big (s : ByteArray) (b : Int) (hs : 1048576 < s.size) (w : World) :
    Calls Tryd.prog 15 #[.string s, .int .i64 b] w fun e w' => e = .returned (.bool false) ∧ w = w' := by
  have b1 : decide ((1048576 : Int) < (s.size : Int)) = true := decide_eq_true (by omega)
  go_enter Tryd.func15, Tryd.ntmps15
  go_wp2_with fail
  go_ret
  exact ⟨rfl, rfl⟩

theorem uintR_le {M n : Nat} {l : List UInt8} (h : uintR M l = some n) : n ≤ M := by
  unfold uintR uintO at h
  split at h
  · cases h
  · split at h
    · cases h
    · exact parse_le (Nat.zero_le _) (okOf_some.1 h)

set_option maxHeartbeats 1000000 in
/-- The law's core: behind the guards, both calls. -/
theorem law6_core (s : ByteArray) (b : Nat) (hb1 : 1 ≤ b) (hb2 : b ≤ 63) (hs : s.size ≤ 65536) (hn : s.data.toList.head? ≠ some 45) (w : World) (hE : ErrOk w) :
    Calls Tryd.prog 6 #[.string s, .int .i64 b] w fun e w' => e = .returned (.bool true) ∧ Below w.heap.size w w' := by
  have hs2 : s.size ≤ 1048576 := by omega
  have K15 := hide (zz15 s b hs2 w)
  have K8 := uint8 b (2 ^ b - 1) hb1 (by omega) rfl s hs2 w hE
  have K11 : ∀ W, ErrOk W → Calls Tryd.prog 11 #[.string s, .int .i64 ((b : Int) + 1)] W fun e w' => e = .returned (itwo (uintR (2 ^ b - 1) s.data.toList)) ∧ Below W.heap.size W w' := fun W h => int11 b hb1 hb2 s hs2 hn W h
  have b16 : decide ((65536 : Int) < (s.size : Int)) = false := decide_eq_false (by omega)
  have bz1 : decide ((b : Int) < 1) = false := decide_eq_false (by omega)
  have bz2 : decide (63 < (b : Int)) = false := decide_eq_false (by omega)
  have HE := hide hE
  clear hE
  have hfirst : (s = ⟨#[]⟩) ∨ (decide ((0 : Int) < (s.size : Int)) = true ∧ ∃ h0 : 0 < s.size, (((s[0]'h0).toNat : Int) == 45) = false ∧ ¬ (((s[0]'h0).toNat : Int) = 45)) := by
    by_cases h0 : 0 < s.size
    · suffices hne : ¬ (((s[0]'h0).toNat : Int) = 45) from Or.inr ⟨decide_eq_true (by omega), h0, beq_eq_false_iff_ne.2 hne, hne⟩
      intro e
      refine hn ((head_at s h0).trans (congrArg some (UInt8.toNat_inj.1 ?_)))
      show (s[0]'h0).toNat = 45
      omega
    · refine Or.inl ?_
      apply ByteArray.ext
      apply Array.ext'
      show s.data.toList = []
      rw [← List.length_eq_zero_iff, ← Lib.size_eq]
      omega
  cases hr : uintR (2 ^ b - 1) s.data.toList with
  | none =>
    rw [hr] at K8 K11
    have K8 := hide K8
    have K11 := hide K11
    clear hr hn
    rcases hfirst with rfl | ⟨hf, h0, h45, hne45⟩
    all_goals
      go_enter Tryd.func6, Tryd.ntmps6
      go_wp2_with fail
      refine (unhide K15).mono ?_
      rintro e w' ⟨rfl, rfl⟩
      clear K15
      go_wp2_with fail
      refine (unhide K8).mono ?_
      rintro e w1 ⟨rfl, hB⟩
      have HE1 := hide ((unhide HE).below hB)
      have HB := hide hB
      clear hB K8 HE
      simp only [two]
      go_wp2_with fail
      refine (unhide K11 _ (unhide HE1)).mono ?_
      rintro e w2 ⟨rfl, hB2⟩
      have HB2 : Hid (Below w.heap.size w w2) := (unhide HB).trans (hB2.mono (unhide HB).size)
      clear hB2 HB K11 HE1
      simp only [itwo]
      go_wp2_with fail
      go_ret
      exact ⟨rfl, unhide HB2⟩
  | some n =>
    have hle := uintR_le hr
    have hn63 : n < 9223372036854775808 := by
      have h1 : 2 ^ b ≤ 2 ^ 63 := Nat.pow_le_pow_right (by omega) hb2
      have h2 : 1 ≤ 2 ^ b := Nat.one_le_two_pow
      omega
    rw [hr] at K8 K11
    have K8 := hide K8
    have K11 := hide K11
    have hnn : ((n : Int) == (n : Int)) = true := by simp
    have hwn : IntKind.i64.wrap (n : Int) = (n : Int) := by
      rw [IntKind.wrap_i64]
      omega
    clear hr hn hle
    rcases hfirst with rfl | ⟨hf, h0, h45, hne45⟩
    all_goals
      go_enter Tryd.func6, Tryd.ntmps6
      go_wp2_with fail
      refine (unhide K15).mono ?_
      rintro e w' ⟨rfl, rfl⟩
      clear K15
      go_wp2_with fail
      refine (unhide K8).mono ?_
      rintro e w1 ⟨rfl, hB⟩
      have HE1 := hide ((unhide HE).below hB)
      have HB := hide hB
      clear hB K8 HE
      simp only [two]
      go_wp2_with fail
      refine (unhide K11 _ (unhide HE1)).mono ?_
      rintro e w2 ⟨rfl, hB2⟩
      have HB2 : Hid (Below w.heap.size w w2) := (unhide HB).trans (hB2.mono (unhide HB).size)
      clear hB2 HB K11 HE1
      simp only [itwo]
      go_wp2_with fail
      go_ret
      exact ⟨rfl, unhide HB2⟩

set_option maxHeartbeats 1000000 in
/-- THE LAW. -/
theorem law6 (s : ByteArray) (z : Int) (w : World) (hE : ErrOk w) :
    Calls Tryd.prog 6 #[.string s, .int .i64 z] w fun e w' => e = .returned (.bool true) ∧ Below w.heap.size w w' := by
  by_cases hbig : 1048576 < s.size
  · have K7 := hide (zz15_big s z hbig w)
    clear hE
    go_enter Tryd.func6, Tryd.ntmps6
    go_wp2_with fail
    refine (unhide K7).mono ?_
    rintro e w' ⟨rfl, rfl⟩
    clear K7
    go_wp2_with fail
    go_ret
    exact ⟨rfl, Below.refl _ _⟩
  have hs : s.size ≤ 1048576 := by omega
  have K7 := hide (zz15 s z hs w)
  by_cases h16 : 65536 < s.size
  · have b16 : decide ((65536 : Int) < (s.size : Int)) = true := decide_eq_true (by omega)
    clear hE
    go_enter Tryd.func6, Tryd.ntmps6
    go_wp2_with fail
    refine (unhide K7).mono ?_
    rintro e w' ⟨rfl, rfl⟩
    clear K7
    go_wp2_with fail
    go_ret
    exact ⟨rfl, Below.refl _ _⟩
  have b16 : decide ((65536 : Int) < (s.size : Int)) = false := decide_eq_false (by omega)
  by_cases hz1 : z < 1
  · have bz1 : decide (z < 1) = true := decide_eq_true hz1
    clear hE
    go_enter Tryd.func6, Tryd.ntmps6
    go_wp2_with fail
    refine (unhide K7).mono ?_
    rintro e w' ⟨rfl, rfl⟩
    clear K7
    go_wp2_with fail
    go_ret
    exact ⟨rfl, Below.refl _ _⟩
  have bz1 : decide (z < 1) = false := decide_eq_false hz1
  by_cases hz2 : 63 < z
  · have bz2 : decide (63 < z) = true := decide_eq_true hz2
    clear hE
    go_enter Tryd.func6, Tryd.ntmps6
    go_wp2_with fail
    refine (unhide K7).mono ?_
    rintro e w' ⟨rfl, rfl⟩
    clear K7
    go_wp2_with fail
    go_ret
    exact ⟨rfl, Below.refl _ _⟩
  have bz2 : decide (63 < z) = false := decide_eq_false hz2
  by_cases hn : s.data.toList.head? = some 45
  · have h0 : 0 < s.size := by
      rcases Nat.eq_zero_or_pos s.size with h | h
      · exfalso
        have hl : s.data.toList = [] := by rw [← List.length_eq_zero_iff, ← Lib.size_eq]; exact h
        rw [hl] at hn
        cases hn
      · exact h
    have hc : s[0]'h0 = 45 := Option.some.inj ((head_at s h0).symm.trans hn)
    have h45 : (((s[0]'h0).toNat : Int) == 45) = true := by rw [hc]; rfl
    have hf : decide ((0 : Int) < (s.size : Int)) = true := decide_eq_true (by omega)
    clear hE hn hc
    go_enter Tryd.func6, Tryd.ntmps6
    go_wp2_with fail
    refine (unhide K7).mono ?_
    rintro e w' ⟨rfl, rfl⟩
    clear K7
    go_wp2_with fail
    go_ret
    exact ⟨rfl, Below.refl _ _⟩
  obtain ⟨b, rfl⟩ := Int.eq_ofNat_of_zero_le (show 0 ≤ z by omega)
  exact law6_core s b (by omega) (by omega) (by omega) hn w hE
end Go.Proofs.Qxb6003994aDoor.Ui
