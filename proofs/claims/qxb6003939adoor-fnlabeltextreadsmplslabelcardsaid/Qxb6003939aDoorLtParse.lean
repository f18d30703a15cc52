import Derived.Test.Qxb6003939aDoorLtFmt
set_option linter.unusedVariables false
namespace Go.Proofs.Qxb6003939aDoor.Lt
open Go.RowKit Go.Sort Go.Lib

theorem pow_le (u : Nat) (h : 1 < Lib.nDigits u) : 10 ^ (Lib.nDigits u - 1) ≤ u := by
  induction u using Nat.strongRecOn with
  | _ u ih =>
    by_cases h10 : u < 10
    · rw [Lib.nDigits_small h10] at h; omega
    · rw [Lib.nDigits_big h10]
      by_cases h1 : 1 < Lib.nDigits (u / 10)
      · have := ih (u / 10) (by omega) h1
        rw [show Lib.nDigits (u / 10) + 1 - 1 = (Lib.nDigits (u / 10) - 1) + 1 by omega, Nat.pow_succ]
        omega
      · have h2 := Lib.nDigits_pos (u / 10)
        rw [show Lib.nDigits (u / 10) + 1 - 1 = 1 by omega]
        omega

theorem nd_le (u : Nat) (hu : u < 4294967296) : Lib.nDigits u ≤ 10 := by
  rcases Nat.lt_or_ge 10 (Lib.nDigits u) with h | h
  · have h1 := pow_le u (by omega)
    have h2 : 10 ^ 10 ≤ 10 ^ (Lib.nDigits u - 1) := Nat.pow_le_pow_right (by omega) (by omega)
    omega
  · exact h

/-- The value of the first k digits. -/
def V (u k : Nat) : Nat := u / 10 ^ (Lib.nDigits u - k)

theorem V_zero (u : Nat) : V u 0 = 0 := by
  unfold V
  rw [Nat.sub_zero]
  exact Nat.div_eq_of_lt (Lib.lt_pow_nDigits u)
theorem V_end (u : Nat) : V u (Lib.nDigits u) = u := by unfold V; simp
theorem V_le (u k : Nat) : V u k ≤ u := Nat.div_le_self _ _
theorem V_succ (u k : Nat) (h : k < Lib.nDigits u) : V u (k + 1) = V u k * 10 + u / 10 ^ (Lib.nDigits u - 1 - k) % 10 := by
  unfold V
  rw [show Lib.nDigits u - k = (Lib.nDigits u - 1 - k) + 1 by omega, show Lib.nDigits u - (k + 1) = Lib.nDigits u - 1 - k by omega, Nat.pow_succ, ← Nat.div_div_eq_div_mul]
  omega

/-- The numeral's string. -/
structure Num (u : Nat) (s : ByteArray) : Prop where
  size : s.size = Lib.nDigits u
  digit : ∀ k (h : k < s.size), (s[k]'h).toNat = 48 + u / 10 ^ (Lib.nDigits u - 1 - k) % 10

theorem num_of (u : Nat) : Num u ⟨(Lib.decDigits u).toArray⟩ := by
  refine ⟨?_, fun k h => ?_⟩
  · rw [Lib.size_eq]; simp [Lib.decDigits_length]
  · have hl : k < (Lib.decDigits u).length := by rw [Lib.size_eq] at h; simpa using h
    have e : (⟨(Lib.decDigits u).toArray⟩ : ByteArray)[k] = (Lib.decDigits u)[k] := by simp [ByteArray.getElem_eq_getElem_data]
    rw [e]
    simp only [Lib.decDigits_eq u, List.getElem_map, List.getElem_range, Lib.dg]
    have h10 : u / 10 ^ (Lib.nDigits u - 1 - k) % 10 < 10 := Nat.mod_lt _ (by omega)
    rw [UInt8.toNat_ofNat', Nat.mod_eq_of_lt (by omega)]

theorem num_first {u : Nat} {s : ByteArray} (hN : Num u s) (h : 1 < s.size) (h0 : 0 < s.size) : (s[0]'h0).toNat ≠ 48 := by
  rw [hN.digit 0 h0]
  have h1 := pow_le u (by rw [← hN.size]; exact h)
  have h2 := Lib.lt_pow_nDigits u
  have hp : 0 < 10 ^ (Lib.nDigits u - 1) := Nat.pow_pos (by omega)
  rw [Nat.sub_zero]
  have h3 : 1 ≤ u / 10 ^ (Lib.nDigits u - 1) := (Nat.le_div_iff_mul_le hp).2 (by omega)
  have h4 : u / 10 ^ (Lib.nDigits u - 1) < 10 := by
    rw [Nat.div_lt_iff_lt_mul hp]
    have := Lib.nDigits_pos u
    rw [show 10 * 10 ^ (Lib.nDigits u - 1) = 10 ^ (Lib.nDigits u - 1 + 1) by rw [Nat.pow_succ]; omega, show Lib.nDigits u - 1 + 1 = Lib.nDigits u by omega]
    exact h2
  rw [Nat.mod_eq_of_lt h4]
  omega

set_option maxHeartbeats 1000000 in
theorem parse_num (u : Nat) (s : ByteArray) (hN : Num u s) (hu : u < 4294967296) (w : World) :
    Calls Tryd.prog 6 #[.string s] w fun e w' => e = .returned (.tuple #[.int .u64 u, .bool true]) ∧ w = w' := by
  have hnd := nd_le u hu
  have hn1 := Lib.nDigits_pos u
  have hsz := hN.size
  have h0 : 0 < s.size := by omega
  have b0 : ((s.size : Int) == 0) = false := beq_eq_false_iff_ne.2 (by omega)
  have b1 : decide ((10 : Int) < (s.size : Int)) = false := by simp; omega
  have b2 : (decide ((1 : Int) < (s.size : Int)) && (((s[0]'h0).toNat : Int) == 48)) = false := by
    by_cases h : 1 < s.size
    · have := num_first hN h h0
      simp; omega
    · simp; omega
  have HN := hide hN
  have HV := hide (V_zero u)
  have HSZ := hide hsz
  have hs10 : s.size ≤ 10 := by omega
  clear hN hsz hn1 hnd
  by_cases h1 : 1 < s.size
  case neg =>
    have b3 : decide ((1 : Int) < (s.size : Int)) = false := by simp; omega
    go_enter Tryd.func6, Tryd.ntmps6
    go_wp2_with fail
    go_loopg [4, 5] s.size (fun g n i wx => w = wx ∧ ∃ k : Nat, k ≤ s.size ∧ g = s.size - k ∧ i = .int .i64 k ∧ n = .int .u64 (V u k : Nat))
    case atStart => exact ⟨rfl, 0, Nat.zero_le _, rfl, rfl, by rw [unhide HV]; rfl⟩
    case round =>
    obtain ⟨rfl, k, hk, rfl, rfl, rfl⟩ := hrel
    by_cases hlt : k < s.size
    · have hkz : (k : Int) < (s.size : Int) := by omega
      have hdig := (unhide HN).digit k hlt
      have hvs := V_succ u k (by rw [← unhide HSZ]; exact hlt)
      have h10 : u / 10 ^ (Lib.nDigits u - 1 - k) % 10 < 10 := Nat.mod_lt _ (by omega)
      have hvl := V_le u k
      obtain ⟨v, hv⟩ : ∃ v, V u k = v := ⟨_, rfl⟩
      rw [hv] at hvs hvl ⊢
      have c1 : 48 ≤ (s[k]'hlt).toNat := by omega
      have c2 : (s[k]'hlt).toNat ≤ 57 := by omega
      have d1 : decide ((((s[k]'hlt).toNat : Int)) < 48) = false := by simp; omega
      have d2 : decide ((57 : Int) < (((s[k]'hlt).toNat : Int))) = false := by simp; omega
      have HNX : Hid (V u (k + 1) = v * 10 + ((s[k]'hlt).toNat - 48)) := by show V u (k + 1) = _; rw [hvs]; omega
      clear hvs hdig h10 hv
      go_wp2_with fail
      go_roundg (s.size - (k + 1))
      case measure => omega
      case rel => exact ⟨rfl, k + 1, by omega, rfl, by go_num, by rw [unhide HNX]; go_num⟩
    · obtain rfl : k = s.size := by omega
      have hkz : ¬ (s.size : Int) < (s.size : Int) := by omega
      have hve : V u s.size = u := by rw [unhide HSZ]; exact V_end u
      rw [hve]
      clear hve
      go_wp2_with fail
      exact bodyPost_ret (v := .tuple #[.int .u64 u, .bool true]) (by simp [results, Tryd.results6, go_sem]) rfl ⟨rfl, rfl⟩
  have b3 : decide ((1 : Int) < (s.size : Int)) = true := by simp; omega
  have b4 : (((s[0]'h0).toNat : Int) == 48) = false := by
    have := num_first (unhide HN) h1 h0
    simp; omega
  go_enter Tryd.func6, Tryd.ntmps6
  go_wp2_with fail
  go_loopg [4, 5] s.size (fun g n i wx => w = wx ∧ ∃ k : Nat, k ≤ s.size ∧ g = s.size - k ∧ i = .int .i64 k ∧ n = .int .u64 (V u k : Nat))
  case atStart => exact ⟨rfl, 0, Nat.zero_le _, rfl, rfl, by rw [unhide HV]; rfl⟩
  case round =>
  obtain ⟨rfl, k, hk, rfl, rfl, rfl⟩ := hrel
  by_cases hlt : k < s.size
  · have hkz : (k : Int) < (s.size : Int) := by omega
    have hdig := (unhide HN).digit k hlt
    have hvs := V_succ u k (by rw [← unhide HSZ]; exact hlt)
    have h10 : u / 10 ^ (Lib.nDigits u - 1 - k) % 10 < 10 := Nat.mod_lt _ (by omega)
    have hvl := V_le u k
    obtain ⟨v, hv⟩ : ∃ v, V u k = v := ⟨_, rfl⟩
    rw [hv] at hvs hvl ⊢
    have c1 : 48 ≤ (s[k]'hlt).toNat := by omega
    have c2 : (s[k]'hlt).toNat ≤ 57 := by omega
    have d1 : decide ((((s[k]'hlt).toNat : Int)) < 48) = false := by simp; omega
    have d2 : decide ((57 : Int) < (((s[k]'hlt).toNat : Int))) = false := by simp; omega
    have HNX : Hid (V u (k + 1) = v * 10 + ((s[k]'hlt).toNat - 48)) := by show V u (k + 1) = _; rw [hvs]; omega
    clear hvs hdig h10 hv
    go_wp2_with fail
    go_roundg (s.size - (k + 1))
    case measure => omega
    case rel => exact ⟨rfl, k + 1, by omega, rfl, by go_num, by rw [unhide HNX]; go_num⟩
  · obtain rfl : k = s.size := by omega
    have hkz : ¬ (s.size : Int) < (s.size : Int) := by omega
    have hve : V u s.size = u := by rw [unhide HSZ]; exact V_end u
    rw [hve]
    clear hve
    go_wp2_with fail
    exact bodyPost_ret (v := .tuple #[.int .u64 u, .bool true]) (by simp [results, Tryd.results6, go_sem]) rfl ⟨rfl, rfl⟩
end Go.Proofs.Qxb6003939aDoor.Lt
