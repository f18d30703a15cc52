import Derived.Test.Qxb6003994aDoorUiWalk
import Derived.Test.Qxb6003994aDoorUiMag
set_option linter.unusedVariables false
namespace Go.Proofs.Qxb6003994aDoor.Ui
open Go.RowKit

set_option maxHeartbeats 1000000 in
/-- decimal.Uint. -/
theorem uint8 (b M : Nat) (hb1 : 1 ≤ b) (hb2 : b ≤ 64) (hM : M = 2 ^ b - 1) (s : ByteArray) (hs : s.size ≤ 1048576) (w : World) (hE : ErrOk w) :
    Calls Tryd.prog 8 #[.string s, .int .i64 b] w fun e w' => e = .returned (two (uintR M s.data.toList)) ∧ Below w.heap.size w w' := by
  have K := pu16 b M hb1 hb2 hM s hs w hE
  clear hE hM
  cases hu : uintO M s.data.toList with
  | none =>
    have hr : uintR M s.data.toList = none := by unfold uintR; rw [hu]; simp
    rw [hr]
    rw [hu] at K
    have K := hide K
    clear hu hr
    go_enter Tryd.func8, Tryd.ntmps8
    go_wp2_with fail
    refine (unhide K).mono ?_
    rintro e w1 ⟨⟨v, N, rfl⟩, hB⟩
    have HB := hide hB
    clear hB K
    go_wp2_with fail
    exact bodyPost_ret (v := two none) (by simp [two, results, Tryd.results8, go_sem]) rfl ⟨rfl, unhide HB⟩
  | some n =>
    obtain ⟨h0, hp, -⟩ := first_digit s hu
    have K17 := hide (fun W => plain17 s h0 hs hp W)
    rw [hu] at K
    have K := hide K
    cases hl : lead s.data.toList with
    | true =>
      have hr : uintR M s.data.toList = none := by unfold uintR; rw [hl]; rfl
      rw [hr]
      rw [hl] at K17
      clear hu hr hl hp
      go_enter Tryd.func8, Tryd.ntmps8
      go_wp2_with fail
      refine (unhide K).mono ?_
      rintro e w1 ⟨he, hB⟩
      obtain rfl : e = .returned (.tuple #[.int .u64 n, .nilIface]) := he
      have HB := hide hB
      clear hB K
      go_wp2_with fail
      refine (unhide K17 _).mono ?_
      rintro e w2 ⟨rfl, rfl⟩
      clear K17
      go_wp2_with fail
      exact bodyPost_ret (v := two none) (by simp [two, results, Tryd.results8, go_sem]) rfl ⟨rfl, unhide HB⟩
    | false =>
      have hr : uintR M s.data.toList = some n := by unfold uintR; rw [hl, hu]; rfl
      rw [hr]
      rw [hl] at K17
      clear hu hr hl hp
      go_enter Tryd.func8, Tryd.ntmps8
      go_wp2_with fail
      refine (unhide K).mono ?_
      rintro e w1 ⟨he, hB⟩
      obtain rfl : e = .returned (.tuple #[.int .u64 n, .nilIface]) := he
      have HB := hide hB
      clear hB K
      go_wp2_with fail
      refine (unhide K17 _).mono ?_
      rintro e w2 ⟨rfl, rfl⟩
      clear K17
      go_wp2_with fail
      exact bodyPost_ret (v := two (some n)) (by simp [two, results, Tryd.results8, go_sem]) rfl ⟨rfl, unhide HB⟩
end Go.Proofs.Qxb6003994aDoor.Ui
