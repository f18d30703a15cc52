import Derived.Test.Qxb6003994aDoorUiMag
set_option linter.unusedVariables false
namespace Go.Proofs.Qxb6003994aDoor.Ui
open Go.RowKit

set_option maxHeartbeats 1000000 in
/-- THE LAW, over decimal.Uint's contract. -/
theorem law3 (s : ByteArray) (z : Int) (w : World)
    (K8 : ∀ b : Nat, 1 ≤ b → b ≤ 64 → s.size ≤ 1048576 → Calls Tryd.prog 8 #[.string s, .int .i64 b] w fun e w' => e = .returned (two (uintR (2 ^ b - 1) s.data.toList)) ∧ Below w.heap.size w w') :
    Calls Tryd.prog 3 #[.string s, .int .i64 z] w fun e w' => e = .returned (.bool true) ∧ Below w.heap.size w w' := by
  have K8 := hide K8
  by_cases hbig : 1048576 < s.size
  · have K7 := hide (zz7_big s z hbig w)
    clear K8
    go_enter Tryd.func3, Tryd.ntmps3
    go_wp2_with fail
    refine (unhide K7).mono ?_
    rintro e w' ⟨rfl, rfl⟩
    clear K7
    go_wp2_with fail
    go_ret
    exact ⟨rfl, Below.refl _ _⟩
  have hs : s.size ≤ 1048576 := by omega
  have K7 := hide (zz7 s z hs w)
  by_cases h16 : 65536 < s.size
  · have b16 : decide ((65536 : Int) < (s.size : Int)) = true := decide_eq_true (by omega)
    clear K8
    go_enter Tryd.func3, Tryd.ntmps3
    go_wp2_with fail
    refine (unhide K7).mono ?_
    rintro e w' ⟨rfl, rfl⟩
    clear K7
    go_wp2_with fail
    go_ret
    exact ⟨rfl, Below.refl _ _⟩
  have b16 : decide ((65536 : Int) < (s.size : Int)) = false := decide_eq_false (by omega)
  by_cases hz1 : z < 1
  · have bz1 : decide (z < 1) = true := decide_eq_true hz1
    clear K8
    go_enter Tryd.func3, Tryd.ntmps3
    go_wp2_with fail
    refine (unhide K7).mono ?_
    rintro e w' ⟨rfl, rfl⟩
    clear K7
    go_wp2_with fail
    go_ret
    exact ⟨rfl, Below.refl _ _⟩
  have bz1 : decide (z < 1) = false := decide_eq_false hz1
  by_cases hz2 : 64 < z
  · have bz2 : decide (64 < z) = true := decide_eq_true hz2
    clear K8
    go_enter Tryd.func3, Tryd.ntmps3
    go_wp2_with fail
    refine (unhide K7).mono ?_
    rintro e w' ⟨rfl, rfl⟩
    clear K7
    go_wp2_with fail
    go_ret
    exact ⟨rfl, Below.refl _ _⟩
  have bz2 : decide (64 < z) = false := decide_eq_false hz2
  obtain ⟨b, rfl⟩ := Int.eq_ofNat_of_zero_le (show 0 ≤ z by omega)
  have hb1 : 1 ≤ b := by omega
  have hb2 : b ≤ 64 := by omega
  have K8' := unhide K8 b hb1 hb2 hs
  have K9 := hide (fun W => model9 b (2 ^ b - 1) hb1 hb2 rfl s hs W)
  have hM : 2 ^ b - 1 ≤ MAX := by
    have := mval_lt hb2 (rfl : 2 ^ b - 1 = 2 ^ b - 1)
    unfold MAX
    omega
  have hr := uint_model hM s.data.toList
  rw [hr] at K8'
  clear K8 hr hM
  cases hmr : modelR (2 ^ b - 1) s.data.toList with
  | none =>
    rw [hmr] at K8' K9
    have K8 := hide K8'
    clear K8' hmr
    go_enter Tryd.func3, Tryd.ntmps3
    go_wp2_with fail
    refine (unhide K7).mono ?_
    rintro e w' ⟨rfl, rfl⟩
    clear K7
    go_wp2_with fail
    refine (unhide K8).mono ?_
    rintro e w1 ⟨rfl, hB⟩
    have HB := hide hB
    clear hB K8
    simp only [two]
    go_wp2_with fail
    refine (unhide K9 _).mono ?_
    rintro e w2 ⟨rfl, rfl⟩
    clear K9
    simp only [two]
    go_wp2_with fail
    go_ret
    exact ⟨rfl, unhide HB⟩
  | some n =>
    rw [hmr] at K8' K9
    have K8 := hide K8'
    have hn : ((n : Int) == (n : Int)) = true := by simp
    clear K8' hmr
    go_enter Tryd.func3, Tryd.ntmps3
    go_wp2_with fail
    refine (unhide K7).mono ?_
    rintro e w' ⟨rfl, rfl⟩
    clear K7
    go_wp2_with fail
    refine (unhide K8).mono ?_
    rintro e w1 ⟨rfl, hB⟩
    have HB := hide hB
    clear hB K8
    simp only [two]
    go_wp2_with fail
    refine (unhide K9 _).mono ?_
    rintro e w2 ⟨rfl, rfl⟩
    clear K9
    simp only [two]
    go_wp2_with fail
    go_ret
    exact ⟨rfl, unhide HB⟩
end Go.Proofs.Qxb6003994aDoor.Ui
