import Derived.Test.Qxb6003994aDoorUiInt
import Derived.Test.Qxb6003994aDoorUiWalk
set_option linter.unusedVariables false
namespace Go.Proofs.Qxb6003994aDoor.Ui
open Go.RowKit

/-- strconv.ParseInt's ending: the number, or an error. -/
def PvEnd (o : Option Nat) (e : Ending) : Prop := match o with
  | some n => e = .returned (.tuple #[.int .i64 n, .nilIface])
  | none => ∃ (v : Int) (N : Nat), e = .returned (.tuple #[.int .i64 v, .iface 44 (.pointer (some ⟨N, 0, none⟩))])

/-- .. behind a plus sign. -/
def PqEnd (e : Ending) : Prop := ∃ (v : Int) (ev : Value), (ev = .nilIface ∨ ∃ N : Nat, ev = .iface 44 (.pointer (some ⟨N, 0, none⟩))) ∧ e = .returned (.tuple #[.int .i64 v, ev])

theorem toErrK (k : Int) (hk : k = 1 ∨ k = 2) (fn s : ByteArray) (base bits : Int) (w : World) (hs : s.size ≤ 1048576) (h : ErrOk w) :
    Calls Tryd.prog 22 #[.string fn, .string s, .int .i64 base, .int .i64 bits, .iface 41 (.int .i64 k)] w fun e w' => ∃ N : Nat, e = .returned (.iface 44 (.pointer (some ⟨N, 0, none⟩))) ∧ Below w.heap.size w w' := by
  rcases hk with rfl | rfl
  · exact toErr1 fn s base bits w hs h
  · exact toErr2 fn s base bits w hs h

set_option maxHeartbeats 1000000 in
/-- strconv.ParseInt over an internal call that ends in an error. -/
theorem pi19_err (B : Int) (s : ByteArray) (hs : s.size ≤ 1048576) (w : World) (hE : ErrOk w)
    (K : Calls Tryd.prog 23 #[.string s, .int .i64 10, .int .i64 B] w fun e w' => (∃ v k : Int, (k = 1 ∨ k = 2) ∧ e = .returned (.tuple #[.int .i64 v, .iface 41 (.int .i64 k)])) ∧ Below w.heap.size w w') :
    Calls Tryd.prog 19 #[.string s, .int .i64 10, .int .i64 B] w fun e w' => (∃ (v : Int) (N : Nat), e = .returned (.tuple #[.int .i64 v, .iface 44 (.pointer (some ⟨N, 0, none⟩))])) ∧ Below w.heap.size w w' := by
  have K := hide K
  have HE := hide hE
  clear hE
  go_enter Tryd.func19, Tryd.ntmps19
  go_wp2_with fail
  refine (unhide K).mono ?_
  rintro e w1 ⟨⟨v, k, hk, rfl⟩, hB⟩
  have KE := hide (toErrK k hk ⟨#[80, 97, 114, 115, 101, 73, 110, 116]⟩ s 10 B w1 hs ((unhide HE).below hB))
  have HB := hide hB
  clear hB K HE hk
  go_wp2_with fail
  refine (unhide KE).mono ?_
  rintro e w2 ⟨N, rfl, hB2⟩
  have HB2 : Hid (Below w.heap.size w w2) := (unhide HB).trans (hB2.mono (unhide HB).size)
  clear hB2 KE HB
  go_wp2_with fail
  exact bodyPost_ret (v := .tuple #[.int .i64 v, .iface 44 (.pointer (some ⟨N, 0, none⟩))]) (by simp [results, Tryd.results19, go_sem]) rfl ⟨⟨v, N, rfl⟩, unhide HB2⟩

set_option maxHeartbeats 1000000 in
/-- .. over one that ends well. -/
theorem pi19_ok (B v : Int) (s : ByteArray) (w : World)
    (K : Calls Tryd.prog 23 #[.string s, .int .i64 10, .int .i64 B] w fun e w' => e = .returned (.tuple #[.int .i64 v, .nilIface]) ∧ Below w.heap.size w w') :
    Calls Tryd.prog 19 #[.string s, .int .i64 10, .int .i64 B] w fun e w' => e = .returned (.tuple #[.int .i64 v, .nilIface]) ∧ Below w.heap.size w w' := by
  have K := hide K
  go_enter Tryd.func19, Tryd.ntmps19
  go_wp2_with fail
  refine (unhide K).mono ?_
  rintro e w1 ⟨rfl, hB⟩
  have HB := hide hB
  clear hB K
  go_wp2_with fail
  exact bodyPost_ret (v := .tuple #[.int .i64 v, .nilIface]) (by simp [results, Tryd.results19, go_sem]) rfl ⟨rfl, unhide HB⟩

theorem pi19 (B M C : Nat) (hB1 : 2 ≤ B) (hB2 : B ≤ 64) (hM : M = 2 ^ B - 1) (hC : C = 2 ^ (B - 1)) (s : ByteArray) (h0 : 0 < s.size) (hs : s.size ≤ 1048576)
    (h43 : (((s[0]'h0).toNat : Int) == 43) = false) (h45 : (((s[0]'h0).toNat : Int) == 45) = false) (w : World) (hE : ErrOk w) :
    Calls Tryd.prog 19 #[.string s, .int .i64 10, .int .i64 B] w fun e w' => PvEnd (uintO (C - 1) s.data.toList) e ∧ Below w.heap.size w w' := by
  have K := parseInt23 B M C hB1 hB2 hM hC s h0 hs h43 h45 w
  cases hu : uintO (C - 1) s.data.toList with
  | none =>
    rw [hu] at K
    exact pi19_err B s hs w hE K
  | some n =>
    rw [hu] at K
    exact pi19_ok B n s w K

theorem pi19_empty (B : Int) (w : World) (hE : ErrOk w) :
    Calls Tryd.prog 19 #[.string ⟨#[]⟩, .int .i64 10, .int .i64 B] w fun e w' => PvEnd none e ∧ Below w.heap.size w w' :=
  pi19_err B ⟨#[]⟩ (by decide) w hE ((parseInt23_empty B w).mono fun e w' ⟨he, hw⟩ => ⟨⟨0, 2, Or.inr rfl, he⟩, hw ▸ Below.refl _ _⟩)

set_option maxHeartbeats 1000000 in
/-- .. behind a plus sign. -/
theorem pi19_plus (B M C : Nat) (hB1 : 2 ≤ B) (hB2 : B ≤ 64) (hM : M = 2 ^ B - 1) (hC : C = 2 ^ (B - 1)) (s : ByteArray) (h0 : 0 < s.size) (hs : s.size ≤ 1048576)
    (h43 : (((s[0]'h0).toNat : Int) == 43) = true) (w : World) (hE : ErrOk w) :
    Calls Tryd.prog 19 #[.string s, .int .i64 10, .int .i64 B] w fun e w' => PqEnd e ∧ Below w.heap.size w w' := by
  have K := hide (parseInt23_plus B M C hB1 hB2 hM hC s h0 hs h43 w)
  have HE := hide hE
  clear hE hM hC h43
  go_enter Tryd.func19, Tryd.ntmps19
  go_wp2_with fail
  refine (unhide K).mono ?_
  rintro e w1 ⟨⟨v, ev, hev, rfl⟩, hB⟩
  have HB := hide hB
  clear K
  rcases hev with rfl | rfl | rfl
  · clear HE hB
    go_wp2_with fail
    exact bodyPost_ret (v := .tuple #[.int .i64 v, .nilIface]) (by simp [results, Tryd.results19, go_sem]) rfl ⟨⟨v, .nilIface, Or.inl rfl, rfl⟩, unhide HB⟩
  · have KE := hide (toErr1 ⟨#[80, 97, 114, 115, 101, 73, 110, 116]⟩ s 10 B w1 hs ((unhide HE).below hB))
    clear hB HE
    go_wp2_with fail
    refine (unhide KE).mono ?_
    rintro e w2 ⟨N, rfl, hB2⟩
    have HB2 : Hid (Below w.heap.size w w2) := (unhide HB).trans (hB2.mono (unhide HB).size)
    clear hB2 KE HB
    go_wp2_with fail
    exact bodyPost_ret (v := .tuple #[.int .i64 v, .iface 44 (.pointer (some ⟨N, 0, none⟩))]) (by simp [results, Tryd.results19, go_sem]) rfl ⟨⟨v, .iface 44 (.pointer (some ⟨N, 0, none⟩)), Or.inr ⟨N, rfl⟩, rfl⟩, unhide HB2⟩
  · have KE := hide (toErr2 ⟨#[80, 97, 114, 115, 101, 73, 110, 116]⟩ s 10 B w1 hs ((unhide HE).below hB))
    clear hB HE
    go_wp2_with fail
    refine (unhide KE).mono ?_
    rintro e w2 ⟨N, rfl, hB2⟩
    have HB2 : Hid (Below w.heap.size w w2) := (unhide HB).trans (hB2.mono (unhide HB).size)
    clear hB2 KE HB
    go_wp2_with fail
    exact bodyPost_ret (v := .tuple #[.int .i64 v, .iface 44 (.pointer (some ⟨N, 0, none⟩))]) (by simp [results, Tryd.results19, go_sem]) rfl ⟨⟨v, .iface 44 (.pointer (some ⟨N, 0, none⟩)), Or.inr ⟨N, rfl⟩, rfl⟩, unhide HB2⟩

/-- strings.CutPrefix at a text that does not begin so. -/
theorem cut20 (s : ByteArray) (hn : s.data.toList.head? ≠ some 45) (w : World) :
    Calls Tryd.prog 20 #[.string s, .string ⟨#[45]⟩] w fun e w' => e = .returned (.tuple #[.string s, .bool false]) ∧ w = w' := by
  have hp : Lib.hasPrefix s.data.toList [45] = false := by
    unfold Lib.hasPrefix
    cases hl : s.data.toList with
    | nil => rfl
    | cons c r =>
      rw [hl] at hn
      have hc : c ≠ 45 := fun e => hn (by rw [e]; rfl)
      simp [List.isPrefixOf, Ne.symm hc]
  have K := Any.strings_CutPrefix Tryd.lays103 s ⟨#[45]⟩ w
  refine K.mono fun e w' ⟨he, hw⟩ => ⟨?_, hw.symm⟩
  rw [he]
  have e1 : (⟨#[45]⟩ : ByteArray).data.toList = [45] := rfl
  rw [e1, hp]
  unfold Lib.trimPrefix
  rw [hp]
  rfl

/-- A number and whether there is one, signed. -/
def itwo : Option Nat → Value
  | some n => .tuple #[.int .i64 n, .bool true]
  | none => .tuple #[.int .i64 0, .bool false]

set_option maxHeartbeats 1000000 in
/-- decimal.Int over an error. -/
theorem int11_err (B : Int) (s : ByteArray) (hn : s.data.toList.head? ≠ some 45) (w : World)
    (K : Calls Tryd.prog 19 #[.string s, .int .i64 10, .int .i64 B] w fun e w' => PvEnd none e ∧ Below w.heap.size w w') :
    Calls Tryd.prog 11 #[.string s, .int .i64 B] w fun e w' => e = .returned (itwo none) ∧ Below w.heap.size w w' := by
  have K := hide K
  have K20 := hide (fun W => cut20 s hn W)
  clear hn
  go_enter Tryd.func11, Tryd.ntmps11
  go_wp2_with fail
  refine (unhide K).mono ?_
  rintro e w1 ⟨⟨v, N, rfl⟩, hB⟩
  have HB := hide hB
  clear hB K
  go_wp2_with fail
  refine (unhide K20 _).mono ?_
  rintro e w2 ⟨rfl, rfl⟩
  clear K20
  go_wp2_with fail
  exact bodyPost_ret (v := itwo none) (by simp [itwo, results, Tryd.results11, go_sem]) rfl ⟨rfl, unhide HB⟩

set_option maxHeartbeats 1000000 in
/-- decimal.Int where ParseInt ends well and plain answers p. -/
theorem int11_ok (B v : Int) (p : Bool) (s : ByteArray) (hn : s.data.toList.head? ≠ some 45) (w : World)
    (K : Calls Tryd.prog 19 #[.string s, .int .i64 10, .int .i64 B] w fun e w' => e = .returned (.tuple #[.int .i64 v, .nilIface]) ∧ Below w.heap.size w w')
    (K17 : ∀ W, Calls Tryd.prog 17 #[.string s] W fun e w' => e = .returned (.bool p) ∧ W = w') :
    Calls Tryd.prog 11 #[.string s, .int .i64 B] w fun e w' => e = .returned (if p = true then .tuple #[.int .i64 v, .bool true] else .tuple #[.int .i64 0, .bool false]) ∧ Below w.heap.size w w' := by
  have K := hide K
  have K17 := hide K17
  have K20 := hide (fun W => cut20 s hn W)
  clear hn
  cases p with
  | true =>
    go_enter Tryd.func11, Tryd.ntmps11
    go_wp2_with fail
    refine (unhide K).mono ?_
    rintro e w1 ⟨rfl, hB⟩
    have HB := hide hB
    clear hB K
    go_wp2_with fail
    refine (unhide K20 _).mono ?_
    rintro e w2 ⟨rfl, rfl⟩
    clear K20
    go_wp2_with fail
    refine (unhide K17 _).mono ?_
    rintro e w3 ⟨rfl, rfl⟩
    clear K17
    go_wp2_with fail
    exact bodyPost_ret (v := .tuple #[.int .i64 v, .bool true]) (by simp [results, Tryd.results11, go_sem]) rfl ⟨rfl, unhide HB⟩
  | false =>
    go_enter Tryd.func11, Tryd.ntmps11
    go_wp2_with fail
    refine (unhide K).mono ?_
    rintro e w1 ⟨rfl, hB⟩
    have HB := hide hB
    clear hB K
    go_wp2_with fail
    refine (unhide K20 _).mono ?_
    rintro e w2 ⟨rfl, rfl⟩
    clear K20
    go_wp2_with fail
    refine (unhide K17 _).mono ?_
    rintro e w3 ⟨rfl, rfl⟩
    clear K17
    go_wp2_with fail
    exact bodyPost_ret (v := .tuple #[.int .i64 0, .bool false]) (by simp [results, Tryd.results11, go_sem]) rfl ⟨rfl, unhide HB⟩

set_option maxHeartbeats 1000000 in
/-- decimal.Int behind a plus sign. -/
theorem int11_plus (B : Int) (s : ByteArray) (h0 : 0 < s.size) (hs : s.size ≤ 1048576) (h43 : (((s[0]'h0).toNat : Int) == 43) = true) (hn : s.data.toList.head? ≠ some 45) (w : World)
    (K : Calls Tryd.prog 19 #[.string s, .int .i64 10, .int .i64 B] w fun e w' => PqEnd e ∧ Below w.heap.size w w') :
    Calls Tryd.prog 11 #[.string s, .int .i64 B] w fun e w' => e = .returned (itwo none) ∧ Below w.heap.size w w' := by
  have K := hide K
  have K17 := hide (fun W => plain17_plus s h0 hs h43 W)
  have K20 := hide (fun W => cut20 s hn W)
  clear hn h43
  go_enter Tryd.func11, Tryd.ntmps11
  go_wp2_with fail
  refine (unhide K).mono ?_
  rintro e w1 ⟨⟨v, ev, hev, rfl⟩, hB⟩
  have HB := hide hB
  clear hB K
  rcases hev with rfl | ⟨N, rfl⟩
  · go_wp2_with fail
    refine (unhide K20 _).mono ?_
    rintro e w2 ⟨rfl, rfl⟩
    clear K20
    go_wp2_with fail
    refine (unhide K17 _).mono ?_
    rintro e w3 ⟨rfl, rfl⟩
    clear K17
    go_wp2_with fail
    exact bodyPost_ret (v := itwo none) (by simp [itwo, results, Tryd.results11, go_sem]) rfl ⟨rfl, unhide HB⟩
  · clear K17
    go_wp2_with fail
    refine (unhide K20 _).mono ?_
    rintro e w2 ⟨rfl, rfl⟩
    clear K20
    go_wp2_with fail
    exact bodyPost_ret (v := itwo none) (by simp [itwo, results, Tryd.results11, go_sem]) rfl ⟨rfl, unhide HB⟩

/-- decimal.Int at bits + 1, on a text with no minus sign: what decimal.Uint reads at bits. -/
theorem int11 (b : Nat) (hb1 : 1 ≤ b) (hb2 : b ≤ 63) (s : ByteArray) (hs : s.size ≤ 1048576) (hn : s.data.toList.head? ≠ some 45) (w : World) (hE : ErrOk w) :
    Calls Tryd.prog 11 #[.string s, .int .i64 ((b : Int) + 1)] w fun e w' => e = .returned (itwo (uintR (2 ^ b - 1) s.data.toList)) ∧ Below w.heap.size w w' := by
  have eB : ((b : Int) + 1) = ((b + 1 : Nat) : Int) := by simp
  rw [eB]
  by_cases h0' : s.size = 0
  · have hl : s.data.toList = [] := by rw [← List.length_eq_zero_iff, ← Lib.size_eq]; exact h0'
    have hr : uintR (2 ^ b - 1) s.data.toList = none := by rw [hl]; simp [uintR, uintO]
    rw [hr]
    obtain rfl : s = ⟨#[]⟩ := by
      apply ByteArray.ext
      apply Array.ext'
      exact hl
    exact int11_err _ _ hn w (pi19_empty _ w hE)
  have h0 : 0 < s.size := by omega
  have hhead := head_at s h0
  have h45 : (((s[0]'h0).toNat : Int) == 45) = false := by
    rw [beq_eq_false_iff_ne]
    intro e
    refine hn (hhead.trans (congrArg some (UInt8.toNat_inj.1 ?_)))
    show (s[0]'h0).toNat = 45
    omega
  cases h43 : (((s[0]'h0).toNat : Int) == 43) with
  | true =>
    have hr : uintR (2 ^ b - 1) s.data.toList = none := by
      have hu : uintO (2 ^ b - 1) s.data.toList = none := by
        cases hu : uintO (2 ^ b - 1) s.data.toList with
        | none => rfl
        | some n =>
          obtain ⟨h0b, hf, -⟩ := first_digit s hu
          rw [hf] at h43
          cases h43
      unfold uintR
      rw [hu]
      simp
    rw [hr]
    exact int11_plus _ s h0 hs h43 hn w (pi19_plus (b + 1) _ _ (by omega) (by omega) rfl rfl s h0 hs h43 w hE)
  | false =>
    have K := pi19 (b + 1) _ (2 ^ b) (by omega) (by omega) rfl (by simp) s h0 hs h43 h45 w hE
    cases hu : uintO (2 ^ b - 1) s.data.toList with
    | none =>
      have hr : uintR (2 ^ b - 1) s.data.toList = none := by unfold uintR; rw [hu]; simp
      rw [hr]
      rw [hu] at K
      exact int11_err _ s hn w K
    | some n =>
      rw [hu] at K
      have K11 := int11_ok _ (n : Int) _ s hn w K (fun W => plain17 s h0 hs h43 W)
      cases hl : lead s.data.toList with
      | true =>
        have hr : uintR (2 ^ b - 1) s.data.toList = none := by unfold uintR; rw [hl]; rfl
        rw [hr]
        rw [hl] at K11
        exact K11
      | false =>
        have hr : uintR (2 ^ b - 1) s.data.toList = some n := by unfold uintR; rw [hl, hu]; rfl
        rw [hr]
        rw [hl] at K11
        exact K11
end Go.Proofs.Qxb6003994aDoor.Ui
