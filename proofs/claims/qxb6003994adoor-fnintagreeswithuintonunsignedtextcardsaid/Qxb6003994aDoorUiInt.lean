import Derived.Test.Qxb6003994aDoorUiMag
import Derived.Lib.IfaceNeq
set_option linter.unusedVariables false
namespace Go.Proofs.Qxb6003994aDoor.Ui
open Go.RowKit

/-- internal ParseInt's ending, where the text bears no minus sign. -/
def PiEnd (o : Option Nat) (e : Ending) : Prop := match o with
  | some n => e = .returned (.tuple #[.int .i64 n, .nilIface])
  | none => ∃ v k : Int, (k = 1 ∨ k = 2) ∧ e = .returned (.tuple #[.int .i64 v, .iface 41 (.int .i64 k)])

/-- Behind a plus sign: a number, and no error or one of the two. -/
def PlusEnd (e : Ending) : Prop := ∃ (v : Int) (ev : Value), (ev = .nilIface ∨ ev = .iface 41 (.int .i64 1) ∨ ev = .iface 41 (.int .i64 2)) ∧ e = .returned (.tuple #[.int .i64 v, ev])

theorem comp41 : (Tryd.prog.info? 41).map (·.comparable) = some true := by kernel_rfl

theorem neq2 (W : World) : (binOp .neq 31 (.iface 41 (.int .i64 2)) (.iface 41 (.int .i64 1))).run Tryd.prog W = .ok (.bool true) W := Lib.run_neq_iface_int W 2 1 Tryd.underlying31 comp41 Tryd.underlying41
theorem neq1 (W : World) : (binOp .neq 31 (.iface 41 (.int .i64 1)) (.iface 41 (.int .i64 1))).run Tryd.prog W = .ok (.bool false) W := Lib.run_neq_iface_int W 1 1 Tryd.underlying31 comp41 Tryd.underlying41

theorem cut_val {B C : Nat} (hB1 : 1 ≤ B) (hB2 : B ≤ 64) (hC : C = 2 ^ (B - 1)) : IntKind.u64.wrap ((2 : Int) ^ (B - 1)) = (C : Int) := by
  have e : ((2 : Int) ^ (B - 1)) = ((2 ^ (B - 1) : Nat) : Int) := by simp
  have h2 : 2 ^ (B - 1) ≤ 2 ^ 63 := Nat.pow_le_pow_right (by omega) (by omega)
  rw [e, IntKind.wrap_u64]
  omega

theorem cut_some {M C u : Nat} {l : List UInt8} (hM : M ≤ MAX) (hCM : C - 1 ≤ M) (hne : l ≠ []) (h : Lib.parseUintM M 0 l = .ok u) (hu : u < C) : uintO (C - 1) l = some u := by
  unfold uintO
  rw [if_neg hne]
  have h1 := (parse_iff hM (Nat.zero_le _)).1 h
  exact okOf_some.2 ((parse_iff (Nat.le_trans hCM hM) (Nat.zero_le _)).2 ⟨h1.1, by omega⟩)

theorem cut_none {M C : Nat} {l : List UInt8} (hM : M ≤ MAX) (hC : 1 ≤ C) (hCM : C - 1 ≤ M) (hne : l ≠ []) (h : ∀ u, Lib.parseUintM M 0 l = .ok u → C ≤ u) : uintO (C - 1) l = none := by
  cases hu : uintO (C - 1) l with
  | none => rfl
  | some n =>
    exfalso
    unfold uintO at hu
    rw [if_neg hne] at hu
    have h1 := (parse_iff (Nat.le_trans hCM hM) (Nat.zero_le _)).1 (okOf_some.1 hu)
    have h2 := h n ((parse_iff hM (Nat.zero_le _)).2 ⟨h1.1, by omega⟩)
    omega

set_option maxHeartbeats 4000000 in
set_option maxRecDepth 100000 in
/-- internal ParseInt, no sign. -/
theorem parseInt23 (B M C : Nat) (hB1 : 2 ≤ B) (hB2 : B ≤ 64) (hM : M = 2 ^ B - 1) (hC : C = 2 ^ (B - 1)) (s : ByteArray) (h0 : 0 < s.size) (hs : s.size ≤ 1048576)
    (h43 : (((s[0]'h0).toNat : Int) == 43) = false) (h45 : (((s[0]'h0).toNat : Int) == 45) = false) (w : World) :
    Calls Tryd.prog 23 #[.string s, .int .i64 10, .int .i64 B] w fun e w' => PiEnd (uintO (C - 1) s.data.toList) e ∧ Below w.heap.size w w' := by
  have hemp : s.toList.isEmpty = false := by
    rw [← decide_eq_emptyBytes]
    exact decide_eq_false (fun h => by rw [h] at h0; cases h0)
  have hne : s.data.toList ≠ [] := fun e => by
    have : s.size = 0 := by rw [Lib.size_eq, e]; rfl
    omega
  have K := parse21 B M (by omega) hB2 hM s (by omega) hs w
  have hMb : M ≤ MAX := by have := mval_lt hB2 hM; unfold MAX; omega
  have hp2 : 2 ^ B = 2 * 2 ^ (B - 1) := by rw [show B = (B - 1) + 1 by omega, Nat.pow_succ]; simp; omega
  have hC1 : 1 ≤ C := by rw [hC]; exact Nat.one_le_two_pow
  have hCM : C ≤ M := by omega
  have hC63 : C ≤ 9223372036854775808 := by
    have : 2 ^ (B - 1) ≤ 2 ^ 63 := Nat.pow_le_pow_right (by omega) (by omega)
    omega
  have hcv := cut_val (by omega) hB2 hC
  have HB1 := hide (below_bytes w s)
  obtain ⟨w1, hw1⟩ : ∃ w1, Lib.bytesWorld w 5 s = w1 := ⟨_, rfl⟩
  rw [hw1] at K HB1
  clear hw1
  have hbz : ((B : Int) == 0) = false := beq_eq_false_iff_ne.2 (by omega)
  have hbt : ((B : Int) - 1).toNat = B - 1 := by omega
  obtain ⟨c, hc⟩ : ∃ c : Int, c = (C : Int) := ⟨_, rfl⟩
  rw [← hc] at hcv
  have c0 : 1 ≤ c := by omega
  have c1 : c ≤ 9223372036854775808 := by omega
  have hq2 := neq2
  have hq1 := neq1
  clear hM hC hp2
  rcases hp : Lib.parseUintM M 0 s.data.toList with u | _ | _
  · rw [hp] at K
    have hu : u ≤ M := parse_le (Nat.zero_le _) hp
    have hu2 : u ≤ 18446744073709551615 := Nat.le_trans hu hMb
    by_cases hlt : u < C
    · rw [cut_some hMb (by omega) hne hp hlt]
      obtain ⟨a, ha⟩ : ∃ a : Int, a = (u : Int) := ⟨_, rfl⟩
      have K : Hid (Calls Tryd.prog 21 #[.string s, .int .i64 10, .int .i64 B] w fun e w' => e = .returned (.tuple #[.int .u64 a, .nilIface]) ∧ w' = w1) := by rw [ha]; exact K
      have a0 : 0 ≤ a := by omega
      have a1 : a < 9223372036854775808 := by omega
      have t1 : decide (c ≤ a) = false := decide_eq_false (by omega)
      have HA := hide ha
      clear ha hc hlt hu hu2 hp hMb hCM hC63 hC1 hne
      go_enter Tryd.func23, Tryd.ntmps23
      go_wp2_with fail
      refine (unhide K).mono ?_
      rintro e w' ⟨rfl, rfl⟩
      clear K
      go_wp2_with fail
      exact bodyPost_ret (v := .tuple #[.int .i64 a, .nilIface]) (by simp [results, Tryd.results23, go_sem]) rfl ⟨by rw [unhide HA]; rfl, unhide HB1⟩
    · rw [cut_none hMb hC1 (by omega) hne (fun v hv => by rw [hp] at hv; cases hv; omega)]
      obtain ⟨a, ha⟩ : ∃ a : Int, a = (u : Int) := ⟨_, rfl⟩
      have K : Hid (Calls Tryd.prog 21 #[.string s, .int .i64 10, .int .i64 B] w fun e w' => e = .returned (.tuple #[.int .u64 a, .nilIface]) ∧ w' = w1) := by rw [ha]; exact K
      have a0 : 0 ≤ a := by omega
      have a1 : a ≤ 18446744073709551615 := by omega
      have t1 : decide (c ≤ a) = true := decide_eq_true (by omega)
      clear ha hc hlt hu hu2 hp hMb hCM hC63 hC1 hne
      go_enter Tryd.func23, Tryd.ntmps23
      go_wp2_with fail
      refine (unhide K).mono ?_
      rintro e w' ⟨rfl, rfl⟩
      clear K
      go_wp2_with fail
      exact bodyPost_ret (v := .tuple #[.int .i64 (c - 1), .iface 41 (.int .i64 1)]) (by simp [results, Tryd.results23, go_sem]) rfl ⟨⟨_, 1, Or.inl rfl, rfl⟩, unhide HB1⟩
  · rw [cut_none hMb hC1 (by omega) hne (fun v hv => by rw [hp] at hv; cases hv)]
    rw [hp] at K
    have K : Hid (Calls Tryd.prog 21 #[.string s, .int .i64 10, .int .i64 B] w fun e w' => e = .returned (.tuple #[.int .u64 0, .iface 41 (.int .i64 2)]) ∧ w' = w1) := K
    clear hc hp hMb hCM hC63 hC1 hne
    go_enter Tryd.func23, Tryd.ntmps23
    go_wp2_with fail
    refine (unhide K).mono ?_
    rintro e w' ⟨rfl, rfl⟩
    clear K
    go_wp2_with fail
    exact bodyPost_ret (v := .tuple #[.int .i64 0, .iface 41 (.int .i64 2)]) (by simp [results, Tryd.results23, go_sem]) rfl ⟨⟨0, 2, Or.inr rfl, rfl⟩, unhide HB1⟩
  · rw [cut_none hMb hC1 (by omega) hne (fun v hv => by rw [hp] at hv; cases hv)]
    rw [hp] at K
    obtain ⟨a, ha⟩ : ∃ a : Int, a = (M : Int) := ⟨_, rfl⟩
    have K : Hid (Calls Tryd.prog 21 #[.string s, .int .i64 10, .int .i64 B] w fun e w' => e = .returned (.tuple #[.int .u64 a, .iface 41 (.int .i64 1)]) ∧ w' = w1) := by rw [ha]; exact K
    have a0 : 0 ≤ a := by omega
    have a1 : a ≤ 18446744073709551615 := by unfold MAX at hMb; omega
    have t1 : decide (c ≤ a) = true := decide_eq_true (by omega)
    clear ha hc hp hMb hCM hC63 hC1 hne
    go_enter Tryd.func23, Tryd.ntmps23
    go_wp2_with fail
    refine (unhide K).mono ?_
    rintro e w' ⟨rfl, rfl⟩
    clear K
    go_wp2_with fail
    exact bodyPost_ret (v := .tuple #[.int .i64 (c - 1), .iface 41 (.int .i64 1)]) (by simp [results, Tryd.results23, go_sem]) rfl ⟨⟨_, 1, Or.inl rfl, rfl⟩, unhide HB1⟩

/-- internal ParseInt at the empty text. -/
theorem parseInt23_empty (B : Int) (w : World) :
    Calls Tryd.prog 23 #[.string ⟨#[]⟩, .int .i64 10, .int .i64 B] w fun e w' => e = .returned (.tuple #[.int .i64 0, .iface 41 (.int .i64 2)]) ∧ w = w' := by
  go_enter Tryd.func23, Tryd.ntmps23
  go_wp2_with fail
  exact bodyPost_ret (v := .tuple #[.int .i64 0, .iface 41 (.int .i64 2)]) (by simp [results, Tryd.results23, go_sem]) rfl ⟨rfl, rfl⟩

set_option maxHeartbeats 4000000 in
set_option maxRecDepth 100000 in
/-- internal ParseInt behind a plus sign. -/
theorem parseInt23_plus (B M C : Nat) (hB1 : 2 ≤ B) (hB2 : B ≤ 64) (hM : M = 2 ^ B - 1) (hC : C = 2 ^ (B - 1)) (s : ByteArray) (h0 : 0 < s.size) (hs : s.size ≤ 1048576)
    (h43 : (((s[0]'h0).toNat : Int) == 43) = true) (w : World) :
    Calls Tryd.prog 23 #[.string s, .int .i64 10, .int .i64 B] w fun e w' => PlusEnd e ∧ Below w.heap.size w w' := by
  have hemp : s.toList.isEmpty = false := by
    rw [← decide_eq_emptyBytes]
    exact decide_eq_false (fun h => by rw [h] at h0; cases h0)
  have hsl : ∀ W, (Instr.slice 9 (.string s) (some (.int .i64 1)) none none).run Tryd.prog W = .ok (.string (s.extract 1 s.size)) W := fun W => by
    rw [run_slice_string_from_if W 9 s .i64 _ Tryd.underlying9, if_pos ⟨by omega, by omega⟩]
    rfl
  have hts : (s.extract 1 s.size).size ≤ 1048576 := by rw [ByteArray.size_extract]; omega
  generalize s.extract 1 s.size = t at hsl hts
  have hMb : M ≤ MAX := by have := mval_lt hB2 hM; unfold MAX; omega
  have hp2 : 2 ^ B = 2 * 2 ^ (B - 1) := by rw [show B = (B - 1) + 1 by omega, Nat.pow_succ]; simp; omega
  have hC1 : 1 ≤ C := by rw [hC]; exact Nat.one_le_two_pow
  have hCM : C ≤ M := by omega
  have hC63 : C ≤ 9223372036854775808 := by
    have : 2 ^ (B - 1) ≤ 2 ^ 63 := Nat.pow_le_pow_right (by omega) (by omega)
    omega
  have hcv := cut_val (by omega) hB2 hC
  have hbz : ((B : Int) == 0) = false := beq_eq_false_iff_ne.2 (by omega)
  have hbt : ((B : Int) - 1).toNat = B - 1 := by omega
  obtain ⟨c, hc⟩ : ∃ c : Int, c = (C : Int) := ⟨_, rfl⟩
  rw [← hc] at hcv
  have c0 : 1 ≤ c := by omega
  have c1 : c ≤ 9223372036854775808 := by omega
  have hq2 := neq2
  have hq1 := neq1
  by_cases ht0 : t.size = 0
  · have htl : t.data.toList = [] := by rw [← List.length_eq_zero_iff, ← Lib.size_eq]; exact ht0
    obtain rfl : t = ⟨#[]⟩ := by
      apply ByteArray.ext
      apply Array.ext'
      exact htl
    have K := hide (parse21_empty B w)
    clear htl ht0 hM hC hp2 hMb hCM hC1 hC63 hc
    go_enter Tryd.func23, Tryd.ntmps23
    go_wp2_with fail
    refine (unhide K).mono ?_
    rintro e w' ⟨rfl, rfl⟩
    clear K
    go_wp2_with fail
    exact bodyPost_ret (v := .tuple #[.int .i64 0, .iface 41 (.int .i64 2)]) (by simp [results, Tryd.results23, go_sem]) rfl ⟨⟨0, _, Or.inr (Or.inr rfl), rfl⟩, Below.refl _ _⟩
  have K := parse21 B M (by omega) hB2 hM t ht0 hts w
  have HB1 := hide (below_bytes w t)
  obtain ⟨w1, hw1⟩ : ∃ w1, Lib.bytesWorld w 5 t = w1 := ⟨_, rfl⟩
  rw [hw1] at K HB1
  clear hw1 hM hC hp2
  rcases hp : Lib.parseUintM M 0 t.data.toList with u | _ | _
  · rw [hp] at K
    have hu : u ≤ M := parse_le (Nat.zero_le _) hp
    have hu2 : u ≤ 18446744073709551615 := Nat.le_trans hu hMb
    obtain ⟨a, ha⟩ : ∃ a : Int, a = (u : Int) := ⟨_, rfl⟩
    have K : Hid (Calls Tryd.prog 21 #[.string t, .int .i64 10, .int .i64 B] w fun e w' => e = .returned (.tuple #[.int .u64 a, .nilIface]) ∧ w' = w1) := by rw [ha]; exact K
    have a0 : 0 ≤ a := by omega
    by_cases hlt : u < C
    · have a1 : a < 9223372036854775808 := by omega
      have t1 : decide (c ≤ a) = false := decide_eq_false (by omega)
      clear ha hc hlt hu hu2 hp hMb hCM hC63 hC1 ht0
      go_enter Tryd.func23, Tryd.ntmps23
      go_wp2_with fail
      refine (unhide K).mono ?_
      rintro e w' ⟨rfl, rfl⟩
      clear K
      go_wp2_with fail
      exact bodyPost_ret (v := .tuple #[.int .i64 a, .nilIface]) (by simp [results, Tryd.results23, go_sem]) rfl ⟨⟨_, _, Or.inl rfl, rfl⟩, unhide HB1⟩
    · have a1 : a ≤ 18446744073709551615 := by omega
      have t1 : decide (c ≤ a) = true := decide_eq_true (by omega)
      clear ha hc hlt hu hu2 hp hMb hCM hC63 hC1 ht0
      go_enter Tryd.func23, Tryd.ntmps23
      go_wp2_with fail
      refine (unhide K).mono ?_
      rintro e w' ⟨rfl, rfl⟩
      clear K
      go_wp2_with fail
      exact bodyPost_ret (v := .tuple #[.int .i64 (c - 1), .iface 41 (.int .i64 1)]) (by simp [results, Tryd.results23, go_sem]) rfl ⟨⟨_, _, Or.inr (Or.inl rfl), rfl⟩, unhide HB1⟩
  · rw [hp] at K
    have K : Hid (Calls Tryd.prog 21 #[.string t, .int .i64 10, .int .i64 B] w fun e w' => e = .returned (.tuple #[.int .u64 0, .iface 41 (.int .i64 2)]) ∧ w' = w1) := K
    clear hc hp hMb hCM hC63 hC1 ht0
    go_enter Tryd.func23, Tryd.ntmps23
    go_wp2_with fail
    refine (unhide K).mono ?_
    rintro e w' ⟨rfl, rfl⟩
    clear K
    go_wp2_with fail
    exact bodyPost_ret (v := .tuple #[.int .i64 0, .iface 41 (.int .i64 2)]) (by simp [results, Tryd.results23, go_sem]) rfl ⟨⟨_, _, Or.inr (Or.inr rfl), rfl⟩, unhide HB1⟩
  · rw [hp] at K
    obtain ⟨a, ha⟩ : ∃ a : Int, a = (M : Int) := ⟨_, rfl⟩
    have K : Hid (Calls Tryd.prog 21 #[.string t, .int .i64 10, .int .i64 B] w fun e w' => e = .returned (.tuple #[.int .u64 a, .iface 41 (.int .i64 1)]) ∧ w' = w1) := by rw [ha]; exact K
    have a0 : 0 ≤ a := by omega
    have a1 : a ≤ 18446744073709551615 := by unfold MAX at hMb; omega
    have t1 : decide (c ≤ a) = true := decide_eq_true (by omega)
    clear ha hc hp hMb hCM hC63 hC1 ht0
    go_enter Tryd.func23, Tryd.ntmps23
    go_wp2_with fail
    refine (unhide K).mono ?_
    rintro e w' ⟨rfl, rfl⟩
    clear K
    go_wp2_with fail
    exact bodyPost_ret (v := .tuple #[.int .i64 (c - 1), .iface 41 (.int .i64 1)]) (by simp [results, Tryd.results23, go_sem]) rfl ⟨⟨_, _, Or.inr (Or.inl rfl), rfl⟩, unhide HB1⟩
end Go.Proofs.Qxb6003994aDoor.Ui
