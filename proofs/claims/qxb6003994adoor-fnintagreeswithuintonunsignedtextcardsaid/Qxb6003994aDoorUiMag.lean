import Derived.Test.Qxb6003994aDoorUiPlain
set_option linter.unusedVariables false
namespace Go.Proofs.Qxb6003994aDoor.Ui
open Go.RowKit

theorem byte_at (s : ByteArray) (k : Nat) (h : k < s.size) : s.data.toList[k]? = some s[k] := by
  have h' : k < s.data.size := h
  simp [ByteArray.getElem_eq_getElem_data]

theorem head_at (s : ByteArray) (h0 : 0 < s.size) : s.data.toList.head? = some (s[0]'h0) := by
  rw [List.head?_eq_getElem?]
  exact byte_at s 0 h0

theorem lead_eq (s : ByteArray) (h0 : 0 < s.size) : lead s.data.toList = ((((s[0]'h0).toNat : Int) == 48) && decide (1 < s.size)) := by
  unfold lead
  rw [head_at s h0, ← Lib.size_eq]
  congr 1
  by_cases h : s[0]'h0 = 48
  · rw [h]; rfl
  · have h2 : (s[0]'h0).toNat ≠ 48 := fun x => h (UInt8.toNat_inj.1 x)
    have h1 : ((((s[0]'h0).toNat : Int)) == 48) = false := beq_eq_false_iff_ne.2 (by omega)
    rw [h1]
    simp [h]

/-- plain, where no plus sign leads. -/
theorem plain17 (s : ByteArray) (h0 : 0 < s.size) (hs : s.size ≤ 1048576) (hp : (((s[0]'h0).toNat : Int) == 43) = false) (w : World) :
    Calls Tryd.prog 17 #[.string s] w fun e w' => e = .returned (.bool (!lead s.data.toList)) ∧ w = w' := by
  have hp2 : (((s[0]'h0).toNat : Int) != 43) = true := by rw [bne, hp]; rfl
  rw [lead_eq s h0]
  cases h48 : (((s[0]'h0).toNat : Int) == 48) with
  | false =>
    have h482 : (((s[0]'h0).toNat : Int) != 48) = true := by rw [bne, h48]; rfl
    go_enter Tryd.func17, Tryd.ntmps17
    go_wp2_with fail
    go_ret
    exact ⟨rfl, rfl⟩
  | true =>
    have h482 : (((s[0]'h0).toNat : Int) != 48) = false := by rw [bne, h48]; rfl
    by_cases h1 : 1 < s.size
    · have b1 : ((s.size : Int) == 1) = false := beq_eq_false_iff_ne.2 (by omega)
      rw [decide_eq_true h1]
      go_enter Tryd.func17, Tryd.ntmps17
      go_wp2_with fail
      go_ret
      exact ⟨rfl, rfl⟩
    · have b1 : ((s.size : Int) == 1) = true := by rw [beq_iff_eq]; omega
      rw [decide_eq_false h1]
      go_enter Tryd.func17, Tryd.ntmps17
      go_wp2_with fail
      go_ret
      exact ⟨rfl, rfl⟩

/-- plain, behind a plus sign. -/
theorem plain17_plus (s : ByteArray) (h0 : 0 < s.size) (hs : s.size ≤ 1048576) (hp : (((s[0]'h0).toNat : Int) == 43) = true) (w : World) :
    Calls Tryd.prog 17 #[.string s] w fun e w' => e = .returned (.bool false) ∧ w = w' := by
  have hp2 : (((s[0]'h0).toNat : Int) != 43) = false := by rw [bne, hp]; rfl
  go_enter Tryd.func17, Tryd.ntmps17
  go_wp2_with fail
  go_ret
  exact ⟨rfl, rfl⟩

/-- A number and whether there is one. -/
def two : Option Nat → Value
  | some n => .tuple #[.int .u64 n, .bool true]
  | none => .tuple #[.int .u64 0, .bool false]

theorem digit_first {M n : Nat} {l : List UInt8} (h : uintO M l = some n) : ∃ c r, l = c :: r ∧ 48 ≤ c.toNat ∧ c.toNat ≤ 57 := by
  unfold uintO at h
  cases l with
  | nil => simp at h
  | cons c r =>
    rw [if_neg (by simp)] at h
    have h1 := okOf_some.1 h
    refine ⟨c, r, rfl, ?_⟩
    by_cases hd : 48 ≤ c.toNat ∧ c.toNat ≤ 57
    · exact hd
    · simp [Lib.parseUintM, hd] at h1

theorem first_digit (s : ByteArray) {M n : Nat} (h : uintO M s.data.toList = some n) : ∃ h0 : 0 < s.size, (((s[0]'h0).toNat : Int) == 43) = false ∧ (((s[0]'h0).toNat : Int) == 45) = false := by
  obtain ⟨c, r, hl, h1, h2⟩ := digit_first h
  have h0 : 0 < s.size := by rw [Lib.size_eq, hl]; simp
  refine ⟨h0, ?_⟩
  have hc : s[0]'h0 = c := by
    have := head_at s h0
    rw [hl] at this
    exact (Option.some.inj this).symm
  rw [hc]
  exact ⟨beq_eq_false_iff_ne.2 (by omega), beq_eq_false_iff_ne.2 (by omega)⟩

theorem zz7 (s : ByteArray) (b : Int) (hs : s.size ≤ 1048576) (w : World) :
    Calls Tryd.prog 7 #[.string s, .int .i64 b] w fun e w' => e = .returned (.bool true) ∧ w = w' := by
  have b1 : decide ((1048576 : Int) < (s.size : Int)) = false := decide_eq_false (by omega)
  go_enter Tryd.func7, Tryd.ntmps7
  go_wp2_with fail
  go_ret
  exact ⟨rfl, rfl⟩
theorem zz7_big (s : ByteArray) (b : Int) (hs : 1048576 < s.size) (w : World) :
    Calls Tryd.prog 7 #[.string s, .int .i64 b] w fun e w' => e = .returned (.bool false) ∧ w = w' := by
  have b1 : decide ((1048576 : Int) < (s.size : Int)) = true := decide_eq_true (by omega)
  go_enter Tryd.func7, Tryd.ntmps7
  go_wp2_with fail
  go_ret
  exact ⟨rfl, rfl⟩

theorem mag_nil : magR [] = none := by simp [magR, uintR, uintO]
theorem mag_lead {l : List UInt8} (h : lead l = true) : magR l = none := by simp [magR, uintR, h]
theorem mag_plain {l : List UInt8} (h : lead l = false) (hne : l ≠ []) : magR l = okOf (Lib.parseUintM MAX 0 l) := by simp [magR, uintR, h, uintO, hne]

/-- The loop's tie. -/
def Tie (l : List UInt8) (k : Nat) (a : Int) : Prop := ∃ acc : Nat, a = (acc : Int) ∧ acc ≤ MAX ∧ Lib.parseUintM MAX 0 l = Lib.parseUintM MAX acc (l.drop k)

set_option maxHeartbeats 4000000 in
set_option maxRecDepth 100000 in
theorem canon18 (s : ByteArray) (hs : s.size ≤ 1048576) (w : World) :
    Calls Tryd.prog 18 #[.string s] w fun e w' => e = .returned (two (magR s.data.toList)) ∧ w = w' := by
  by_cases h0 : s.size = 0
  · have hl : s.data.toList = [] := by rw [← List.length_eq_zero_iff, ← Lib.size_eq]; exact h0
    rw [hl, mag_nil]
    obtain rfl : s = ⟨#[]⟩ := by
      apply ByteArray.ext
      apply Array.ext'
      exact hl
    clear hl h0 hs
    go_enter Tryd.func18, Tryd.ntmps18
    go_wp2
    exact bodyPost_ret (v := two none) (by simp [two, results, Tryd.results18, go_sem]) rfl ⟨rfl, rfl⟩
  have hpos : 0 < s.size := by omega
  have b0 : ((s.size : Int) == 0) = false := beq_eq_false_iff_ne.2 (by omega)
  have hne : s.data.toList ≠ [] := fun e => h0 (by rw [Lib.size_eq, e]; rfl)
  have hle := lead_eq s hpos
  cases hl : lead s.data.toList with
  | true =>
    rw [hl] at hle
    obtain ⟨b48, b1⟩ := Bool.and_eq_true_iff.1 hle.symm
    have b2 : decide ((1 : Int) < (s.size : Int)) = true := decide_eq_true (by have := of_decide_eq_true b1; omega)
    rw [mag_lead hl]
    clear hl hle hne b1
    go_enter Tryd.func18, Tryd.ntmps18
    go_wp2_with fail
    exact bodyPost_ret (v := two none) (by simp [two, results, Tryd.results18, go_sem]) rfl ⟨rfl, rfl⟩
  | false =>
    have hcase : (((s[0]'hpos).toNat : Int) == 48) = false ∨ ((((s[0]'hpos).toNat : Int) == 48) = true ∧ decide ((1 : Int) < (s.size : Int)) = false) := by
      rw [hl] at hle
      cases h48 : (((s[0]'hpos).toNat : Int) == 48) with
      | false => exact Or.inl rfl
      | true =>
        rw [h48, Bool.true_and] at hle
        exact Or.inr ⟨rfl, decide_eq_false (by have := of_decide_eq_false hle.symm; omega)⟩
    rw [mag_plain hl hne]
    obtain ⟨l, hL⟩ : ∃ l, l = s.data.toList := ⟨_, rfl⟩
    have hlen : l.length = s.size := by rw [hL, Lib.size_eq]
    have hget : ∀ k (h : k < s.size), l[k]? = some (s[k]'h) := fun k h => by rw [hL]; exact byte_at s k h
    rw [← hL]
    have HGET := hide hget
    have HLEN := hide hlen
    clear hget hlen hL hl hle hne h0
    refine hcase.elim (fun b48 => ?_) (fun ⟨b48, b2⟩ => ?_)
    all_goals
      clear hcase
      go_enter Tryd.func18, Tryd.ntmps18
      go_wp2_with fail
      go_loopg [4, 5] s.size (fun g v i wx => w = wx ∧ ∃ (k : Nat) (a : Int), k ≤ s.size ∧ g = s.size - k ∧ i = .int .i64 k ∧ v = .int .u64 a ∧ Hid (Tie l k a))
      case atStart => exact ⟨rfl, 0, 0, Nat.zero_le _, rfl, rfl, rfl, ⟨0, rfl, Nat.zero_le _, rfl⟩⟩
      case round =>
      obtain ⟨rfl, k, a, hk, rfl, rfl, rfl, hT⟩ := hrel
      by_cases hlt : k < s.size
      · have hkz : (k : Int) < (s.size : Int) := by omega
        obtain ⟨acc, ha, hacc, hp⟩ := unhide hT
        have hdrop : l.drop k = s[k]'hlt :: l.drop (k + 1) := by
          have h1 : k < l.length := by rw [unhide HLEN]; exact hlt
          rw [List.drop_eq_getElem_cons h1]
          have h2 := unhide HGET k hlt
          rw [List.getElem?_eq_getElem h1] at h2
          rw [Option.some.inj h2]
        rw [hdrop] at hp
        clear hT hdrop
        have hc256 : (s[k]'hlt).toNat < 256 := (s[k]'hlt).toNat_lt
        have a0 : 0 ≤ a := by omega
        have a1 : a ≤ 18446744073709551615 := by unfold MAX at hacc; omega
        by_cases hdig : 48 ≤ (s[k]'hlt).toNat ∧ (s[k]'hlt).toNat ≤ 57
        · have d1 : decide ((((s[k]'hlt).toNat : Int)) < 48) = false := decide_eq_false (by omega)
          have d2 : decide ((57 : Int) < (((s[k]'hlt).toNat : Int))) = false := decide_eq_false (by omega)
          have c1 : 48 ≤ (s[k]'hlt).toNat := hdig.1
          have c2 : (s[k]'hlt).toNat ≤ 57 := hdig.2
          by_cases hov : MAX < acc * 10 + ((s[k]'hlt).toNat - 48)
          · have hF : Lib.parseUintM MAX acc (s[k]'hlt :: l.drop (k + 1)) = .range := by simp [Lib.parseUintM, c1, c2, hov]
            have hres : Hid (okOf (Lib.parseUintM MAX 0 l) = none) := by show okOf _ = none; rw [hp, hF]; rfl
            have t1 : decide ((18446744073709551615 - (((s[k]'hlt).toNat : Int) - 48)) / 10 < a) = true := decide_eq_true (by unfold MAX at hov; omega)
            clear hp hF hov ha hacc hdig
            go_wp2_with fail
            exact bodyPost_ret (v := two none) (by simp [two, results, Tryd.results18, go_sem]) rfl ⟨by rw [unhide hres], rfl⟩
          · have hcut : ¬ 1844674407370955162 ≤ acc := by unfold MAX at hov; omega
            have hF : Lib.parseUintM MAX acc (s[k]'hlt :: l.drop (k + 1)) = Lib.parseUintM MAX (acc * 10 + ((s[k]'hlt).toNat - 48)) (l.drop (k + 1)) := by simp [Lib.parseUintM, c1, c2, hov, hcut]
            have t1 : decide ((18446744073709551615 - (((s[k]'hlt).toNat : Int) - 48)) / 10 < a) = false := decide_eq_false (by unfold MAX at hov; omega)
            have HN : Hid (Tie l (k + 1) (a * 10 + (((s[k]'hlt).toNat : Int) - 48))) := ⟨acc * 10 + ((s[k]'hlt).toNat - 48), by omega, by omega, hp.trans hF⟩
            have t2 : a * 10 + (((s[k]'hlt).toNat : Int) - 48) ≤ 18446744073709551615 := by unfold MAX at hov; omega
            clear hp hF hov ha hacc hdig hcut
            go_wp2_with fail
            go_roundg (s.size - (k + 1))
            case measure => omega
            case rel => exact ⟨rfl, k + 1, a * 10 + (((s[k]'hlt).toNat : Int) - 48), by omega, rfl, by go_num, by go_num, HN⟩
        · have hF := bad_at MAX acc (s[k]'hlt) (l.drop (k + 1)) hdig
          have hres : Hid (okOf (Lib.parseUintM MAX 0 l) = none) := by show okOf _ = none; rw [hp, hF]; rfl
          clear hp hF ha hacc
          by_cases hlo : (s[k]'hlt).toNat < 48
          · have d1 : decide ((((s[k]'hlt).toNat : Int)) < 48) = true := decide_eq_true (by omega)
            clear hdig
            go_wp2_with fail
            exact bodyPost_ret (v := two none) (by simp [two, results, Tryd.results18, go_sem]) rfl ⟨by rw [unhide hres], rfl⟩
          · have d1 : decide ((((s[k]'hlt).toNat : Int)) < 48) = false := decide_eq_false (by omega)
            have d2 : decide ((57 : Int) < (((s[k]'hlt).toNat : Int))) = true := decide_eq_true (by omega)
            clear hdig
            go_wp2_with fail
            exact bodyPost_ret (v := two none) (by simp [two, results, Tryd.results18, go_sem]) rfl ⟨by rw [unhide hres], rfl⟩
      · obtain rfl : k = s.size := by omega
        have hkz : ¬ (s.size : Int) < (s.size : Int) := by omega
        obtain ⟨acc, ha, hacc, hp⟩ := unhide hT
        have hF : Lib.parseUintM MAX acc (l.drop s.size) = .ok acc := by rw [List.drop_eq_nil_of_le (by rw [unhide HLEN]; exact Nat.le_refl _)]; rfl
        have hres : Hid (okOf (Lib.parseUintM MAX 0 l) = some acc) := by show okOf _ = some acc; rw [hp, hF]; rfl
        subst ha
        clear hp hF hT hacc
        go_wp2_with fail
        exact bodyPost_ret (v := two (some acc)) (by simp [two, results, Tryd.results18, go_sem]) rfl ⟨by rw [unhide hres], rfl⟩

theorem model_none {M : Nat} {l : List UInt8} (h : magR l = none) : modelR M l = none := by simp [modelR, h]
theorem model_some {M m : Nat} {l : List UInt8} (h : magR l = some m) : modelR M l = if m ≤ M then some m else none := by simp [modelR, h]
theorem mag_le {l : List UInt8} {m : Nat} (h : magR l = some m) : m ≤ MAX := by
  unfold magR uintR uintO at h
  split at h
  · cases h
  · split at h
    · cases h
    · exact parse_le (Nat.zero_le _) (okOf_some.1 h)

/-- 'uint64(1)<<uint(bits)' below 64. -/
theorem shl_val {b M : Nat} (hb : b < 64) (hM : M = 2 ^ b - 1) : IntKind.u64.wrap ((2 : Int) ^ b) = (M : Int) + 1 := by
  have e : ((2 : Int) ^ b) = ((2 ^ b : Nat) : Int) := by simp
  have h1 : 1 ≤ 2 ^ b := Nat.one_le_two_pow
  have h2 : 2 ^ b ≤ 2 ^ 63 := Nat.pow_le_pow_right (by omega) (by omega)
  rw [e, IntKind.wrap_u64]
  omega

set_option maxHeartbeats 4000000 in
set_option maxRecDepth 100000 in
/-- zzModelUint. -/
theorem model9 (b M : Nat) (hb1 : 1 ≤ b) (hb2 : b ≤ 64) (hM : M = 2 ^ b - 1) (s : ByteArray) (hs : s.size ≤ 1048576) (w : World) :
    Calls Tryd.prog 9 #[.string s, .int .i64 b] w fun e w' => e = .returned (two (modelR M s.data.toList)) ∧ w = w' := by
  have K := canon18 s hs w
  cases hm : magR s.data.toList with
  | none =>
    rw [hm] at K
    have K := hide K
    rw [model_none hm]
    clear hm hM
    go_enter Tryd.func9, Tryd.ntmps9
    go_wp2_with fail
    refine (unhide K).mono ?_
    rintro e w' ⟨rfl, rfl⟩
    clear K
    simp only [two]
    go_wp2_with fail
    exact bodyPost_ret (v := two none) (by simp [two, results, Tryd.results9, go_sem]) rfl ⟨rfl, rfl⟩
  | some m =>
    rw [hm] at K
    have K := hide K
    rw [model_some hm]
    have hmx : m ≤ 18446744073709551615 := mag_le hm
    clear hm
    obtain ⟨a, ha⟩ : ∃ a : Int, a = (m : Int) := ⟨_, rfl⟩
    have K : Hid (Calls Tryd.prog 18 #[.string s] w fun e w' => e = .returned (.tuple #[.int .u64 a, .bool true]) ∧ w = w') := by rw [ha]; exact K
    have a0 : 0 ≤ a := by omega
    have a1 : a ≤ 18446744073709551615 := by omega
    by_cases h64 : b < 64
    · have b1 : decide ((b : Int) < 64) = true := decide_eq_true (by omega)
      have hv := shl_val h64 hM
      have hb0 : (0 : Int) ≤ (b : Int) := by omega
      by_cases hle : m ≤ M
      · rw [if_pos hle]
        have t1 : decide ((M : Int) + 1 ≤ a) = false := decide_eq_false (by omega)
        have HA := hide ha
        clear hM hle ha hmx
        go_enter Tryd.func9, Tryd.ntmps9
        go_wp2_with fail
        refine (unhide K).mono ?_
        rintro e w' ⟨rfl, rfl⟩
        clear K
        go_wp2_with fail
        exact bodyPost_ret (v := .tuple #[.int .u64 a, .bool true]) (by simp [results, Tryd.results9, go_sem]) rfl ⟨by rw [unhide HA]; rfl, rfl⟩
      · rw [if_neg hle]
        have t1 : decide ((M : Int) + 1 ≤ a) = true := decide_eq_true (by omega)
        clear hM hle ha hmx
        go_enter Tryd.func9, Tryd.ntmps9
        go_wp2_with fail
        refine (unhide K).mono ?_
        rintro e w' ⟨rfl, rfl⟩
        clear K
        go_wp2_with fail
        exact bodyPost_ret (v := two none) (by simp [two, results, Tryd.results9, go_sem]) rfl ⟨rfl, rfl⟩
    · obtain rfl : b = 64 := by omega
      have hle : m ≤ M := by rw [hM]; exact hmx
      rw [if_pos hle]
      have HA := hide ha
      clear hM hle ha hmx
      go_enter Tryd.func9, Tryd.ntmps9
      go_wp2_with fail
      refine (unhide K).mono ?_
      rintro e w' ⟨rfl, rfl⟩
      clear K
      go_wp2_with fail
      exact bodyPost_ret (v := .tuple #[.int .u64 a, .bool true]) (by simp [results, Tryd.results9, go_sem]) rfl ⟨by rw [unhide HA]; rfl, rfl⟩
end Go.Proofs.Qxb6003994aDoor.Ui
