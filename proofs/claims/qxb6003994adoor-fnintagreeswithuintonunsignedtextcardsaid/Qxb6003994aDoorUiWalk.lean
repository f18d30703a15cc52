import Derived.Test.Qxb6003994aDoorUiDefs
import Derived.Test.Qxb6003994aDoorUiShP
set_option linter.unusedVariables false
namespace Go.Proofs.Qxb6003994aDoor.Ui
open Go.RowKit

theorem toErr2 (fn s : ByteArray) (base bits : Int) (w : World) (hs : s.size ≤ 1048576) (h : ErrOk w) :
    Calls Tryd.prog 22 #[.string fn, .string s, .int .i64 base, .int .i64 bits, .iface 41 (.int .i64 2)] w fun e w' => ∃ N : Nat, e = .returned (.iface 44 (.pointer (some ⟨N, 0, none⟩))) ∧ Below w.heap.size w w' := by
  obtain ⟨ev, h1, h2⟩ := h.1
  exact (Any.strconv_toError_syntax Tryd.laysC245 fn s base bits ev w (by omega) h1 h2).mono fun e w' ⟨N, he, _, _, hB⟩ => ⟨N, he, hB⟩

theorem toErr1 (fn s : ByteArray) (base bits : Int) (w : World) (hs : s.size ≤ 1048576) (h : ErrOk w) :
    Calls Tryd.prog 22 #[.string fn, .string s, .int .i64 base, .int .i64 bits, .iface 41 (.int .i64 1)] w fun e w' => ∃ N : Nat, e = .returned (.iface 44 (.pointer (some ⟨N, 0, none⟩))) ∧ Below w.heap.size w w' := by
  obtain ⟨ev, h1, h2⟩ := h.2
  exact (Any.strconv_toError_range Tryd.laysC245 fn s base bits ev w (by omega) h1 h2).mono fun e w' ⟨N, he, _, _, hB⟩ => ⟨N, he, hB⟩

set_option maxHeartbeats 1000000 in
theorem pu16 (b M : Nat) (hb1 : 1 ≤ b) (hb2 : b ≤ 64) (hM : M = 2 ^ b - 1) (t : ByteArray) (hmax : t.size ≤ 1048576) (w : World) (hE : ErrOk w) :
    Calls Tryd.prog 16 #[.string t, .int .i64 10, .int .i64 b] w fun e w' => PuEnd (uintO M t.data.toList) e ∧ Below w.heap.size w w' := by
  by_cases h0 : t.size = 0
  · have hl : t.data.toList = [] := by
      rw [← List.length_eq_zero_iff, ← Lib.size_eq]; exact h0
    obtain rfl : t = ⟨#[]⟩ := by
      apply ByteArray.ext
      apply Array.ext'
      exact hl
    have K := hide (parse21_empty b w)
    have KE := hide (toErr2 ⟨#[80, 97, 114, 115, 101, 85, 105, 110, 116]⟩ ⟨#[]⟩ 10 b w (by decide) hE)
    clear hE hM
    go_enter Tryd.func16, Tryd.ntmps16
    go_wp2_with fail
    refine (unhide K).mono ?_
    rintro e w' ⟨rfl, rfl⟩
    go_wp2_with fail
    refine (unhide KE).mono ?_
    rintro e w' ⟨N, rfl, hB⟩
    have HB := hide hB
    clear hB K KE
    go_wp2_with fail
    exact bodyPost_ret (v := .tuple #[.int .u64 0, .iface 44 (.pointer (some ⟨N, 0, none⟩))]) (by simp [results, Tryd.results16, go_sem]) rfl ⟨⟨0, N, rfl⟩, unhide HB⟩
  · have hne : t.data.toList ≠ [] := fun e => h0 (by rw [Lib.size_eq, e]; rfl)
    have K := parse21 b M hb1 hb2 hM t h0 hmax w
    have hu : uintO M t.data.toList = okOf (Lib.parseUintM M 0 t.data.toList) := by unfold uintO; rw [if_neg hne]
    rw [hu]
    have hB1 := below_bytes w t
    have hE1 := hE.below hB1
    obtain ⟨w1, hw1⟩ : ∃ w1, Lib.bytesWorld w 5 t = w1 := ⟨_, rfl⟩
    rw [hw1] at hB1 hE1 K
    clear hw1 hu hne hE
    rcases hp : Lib.parseUintM M 0 t.data.toList with n | _ | _
    · rw [hp] at K
      have K := hide K
      have HB := hide hB1
      clear hB1 hE1 hp hM
      go_enter Tryd.func16, Tryd.ntmps16
      go_wp2_with fail
      refine (unhide K).mono ?_
      rintro e w' ⟨rfl, rfl⟩
      clear K
      simp only [Lib.uintTupleM]
      go_wp2_with fail
      exact bodyPost_ret (v := .tuple #[.int .u64 n, .nilIface]) (by simp [results, Tryd.results16, go_sem]) rfl ⟨rfl, unhide HB⟩
    · rw [hp] at K
      have K := hide K
      have HB := hide hB1
      have KE := hide (toErr2 ⟨#[80, 97, 114, 115, 101, 85, 105, 110, 116]⟩ t 10 b w1 hmax hE1)
      clear hB1 hE1 hp hM
      go_enter Tryd.func16, Tryd.ntmps16
      go_wp2_with fail
      refine (unhide K).mono ?_
      rintro e w' ⟨rfl, rfl⟩
      clear K
      simp only [Lib.uintTupleM]
      go_wp2_with fail
      refine (unhide KE).mono ?_
      rintro e w2 ⟨N, rfl, hB⟩
      have HB2 : Hid (Below w.heap.size w w2) := (unhide HB).trans (hB.mono (unhide HB).size)
      clear hB KE HB
      go_wp2_with fail
      exact bodyPost_ret (v := .tuple #[.int .u64 0, .iface 44 (.pointer (some ⟨N, 0, none⟩))]) (by simp [results, Tryd.results16, go_sem]) rfl ⟨⟨0, N, rfl⟩, unhide HB2⟩
    · rw [hp] at K
      have K := hide K
      have HB := hide hB1
      have KE := hide (toErr1 ⟨#[80, 97, 114, 115, 101, 85, 105, 110, 116]⟩ t 10 b w1 hmax hE1)
      clear hB1 hE1 hp hM
      go_enter Tryd.func16, Tryd.ntmps16
      go_wp2_with fail
      refine (unhide K).mono ?_
      rintro e w' ⟨rfl, rfl⟩
      clear K
      simp only [Lib.uintTupleM]
      go_wp2_with fail
      refine (unhide KE).mono ?_
      rintro e w2 ⟨N, rfl, hB⟩
      have HB2 : Hid (Below w.heap.size w w2) := (unhide HB).trans (hB.mono (unhide HB).size)
      clear hB KE HB
      go_wp2_with fail
      exact bodyPost_ret (v := .tuple #[.int .u64 M, .iface 44 (.pointer (some ⟨N, 0, none⟩))]) (by simp [results, Tryd.results16, go_sem]) rfl ⟨⟨M, N, rfl⟩, unhide HB2⟩
end Go.Proofs.Qxb6003994aDoor.Ui
