import Derived.Test.Qxb6003813aCmWalk
import Derived.Test.Qxb6003813aCmShP
set_option linter.unusedVariables false
namespace Go.Proofs.Qxb6003813a.Cm
open Go.RowKit Go.Lib

theorem slash_size (s : ByteArray) : ((⟨#[47]⟩ : ByteArray) ++ s).size = s.size + 1 := by rw [Lib.size_eq, slash_list, Lib.size_eq]; rfl

/-- underglass.Clean of a name that is not rooted. -/
theorem clean20 (s : ByteArray) (w : World) (hs : s.size ≤ 65536) (hp : Lib.hasPrefix s.data.toList [47] = false) :
    Calls Try.prog 20 #[.string s] w fun e w' => e = .returned (.string ⟨(Pa.cleanEls (47 :: s.data.toList)).toArray⟩) ∧ Below w.heap.size w w' := by
  have K23 : Hid (Calls Try.prog 23 #[.string s, .string ⟨#[47]⟩] w fun e w' => e = .returned (.bool false) ∧ w = w') := by
    refine (Try.strings_HasPrefix s ⟨#[47]⟩ w).mono ?_
    rintro e w' ⟨rfl, rfl⟩
    exact ⟨by rw [← hp], rfl⟩
  have K24 := Try.path_Clean_rules ((⟨#[47]⟩ : ByteArray) ++ s) w (by rw [slash_size]; omega)
  rw [slash_list] at K24
  have K24 := hide K24
  go_enter Try.func20, Try.ntmps20
  go_wp2_with fail
  refine (unhide K23).mono ?_
  rintro e w' ⟨rfl, rfl⟩
  go_wp2_with fail
  refine (unhide K24).mono ?_
  rintro e w' ⟨rfl, hB⟩
  have HB := hide hB
  clear hB K23 K24
  go_wp2
  go_ret
  exact ⟨rfl, unhide HB⟩

theorem clean16_false (T : Nat) (s : ByteArray) (w : World) (hs : s.size ≤ 65536) (hp : Lib.hasPrefix s.data.toList [47] = false) (h2 : w.cell? ⟨T, 2, none⟩ = some (.bool false)) :
    Calls Try.prog 16 #[.pointer (some ⟨T, 0, none⟩), .string s] w fun e w' => e = .returned (.string ⟨(Pa.cleanEls (47 :: s.data.toList)).toArray⟩) ∧ Below w.heap.size w w' := by
  have K := hide (clean20 s w hs hp)
  clear hp
  go_enter Try.func16, Try.ntmps16
  go_wp2_with fail
  refine (unhide K).mono ?_
  rintro e w' ⟨rfl, hB⟩
  have HB := hide hB
  clear hB K h2
  go_wp2
  go_ret
  exact ⟨rfl, unhide HB⟩

theorem clean16_dot (T : Nat) (s : ByteArray) (w : World) (hd : (s.toList == [46]) = true) (h2 : w.cell? ⟨T, 2, none⟩ = some (.bool true)) :
    Calls Try.prog 16 #[.pointer (some ⟨T, 0, none⟩), .string s] w fun e w' => e = .returned (.string ⟨#[47]⟩) ∧ w = w' := by
  go_enter Try.func16, Try.ntmps16
  go_wp2
  go_ret
  exact ⟨rfl, rfl⟩

theorem clean16_name (T : Nat) (s : ByteArray) (w : World) (hd : (s.toList == [46]) = false) (h2 : w.cell? ⟨T, 2, none⟩ = some (.bool true)) :
    Calls Try.prog 16 #[.pointer (some ⟨T, 0, none⟩), .string s] w fun e w' => e = .returned (.string s) ∧ w = w' := by
  go_enter Try.func16, Try.ntmps16
  go_wp2
  go_ret
  exact ⟨rfl, rfl⟩

theorem zz_false (s : ByteArray) (w : World) (hs : s.size ≤ 65536) (hp : Lib.hasPrefix s.data.toList [47] = false) :
    Calls Try.prog 7 #[.bool false, .string s] w fun e w' => e = .returned (.string ⟨(Pa.cleanEls (47 :: s.data.toList)).toArray⟩) ∧ Below w.heap.size w w' := by
  have HP := hide hp
  clear hp
  go_enter Try.func7, Try.ntmps7
  go_wp2_with fail
  refine (clean16_false w.heap.size s _ hs (unhide HP) (by simp)).mono ?_
  rintro e w' ⟨rfl, hB⟩
  have HB : Hid (Below w.heap.size w w') := ((Below.refl _ w).alloc (Nat.le_refl _) _).trans (hB.mono (by simp))
  clear hB
  go_wp2
  go_ret
  exact ⟨rfl, unhide HB⟩

theorem zz_dot (s : ByteArray) (w : World) (hd : (s.toList == [46]) = true) :
    Calls Try.prog 7 #[.bool true, .string s] w fun e w' => e = .returned (.string ⟨#[47]⟩) ∧ Below w.heap.size w w' := by
  have HP := hide hd
  clear hd
  go_enter Try.func7, Try.ntmps7
  go_wp2_with fail
  refine (clean16_dot w.heap.size s _ (unhide HP) (by simp)).mono ?_
  rintro e w' ⟨rfl, hw⟩
  have HB : Hid (Below w.heap.size w w') := by
    rw [← hw]; exact (Below.refl _ w).alloc (Nat.le_refl _) _
  clear hw
  go_wp2
  go_ret
  exact ⟨rfl, unhide HB⟩

theorem zz_name (s : ByteArray) (w : World) (hd : (s.toList == [46]) = false) :
    Calls Try.prog 7 #[.bool true, .string s] w fun e w' => e = .returned (.string s) ∧ Below w.heap.size w w' := by
  have HP := hide hd
  clear hd
  go_enter Try.func7, Try.ntmps7
  go_wp2_with fail
  refine (clean16_name w.heap.size s _ (unhide HP) (by simp)).mono ?_
  rintro e w' ⟨rfl, hw⟩
  have HB : Hid (Below w.heap.size w w') := by
    rw [← hw]; exact (Below.refl _ w).alloc (Nat.le_refl _) _
  clear hw
  go_wp2
  go_ret
  exact ⟨rfl, unhide HB⟩

theorem head_not {l : List UInt8} (hok : ∀ e ∈ Pa.els l, Ok e) : Lib.hasPrefix l [47] = false := by
  cases l with
  | nil => rfl
  | cons c t =>
    by_cases h : c = 47
    · subst h
      exact absurd rfl (hok [] (by simp [Pa.els])).1
    · have : (47 == c) = false := by simpa using fun e => h e.symm
      simp [Lib.hasPrefix, List.isPrefixOf, this]

theorem first_not {s : ByteArray} (h : 0 < s.size) (hp : Lib.hasPrefix s.data.toList [47] = false) : (((s[0]'h).toNat : Int) != 47) = true := by
  cases hb : (((s[0]'h).toNat : Int) == 47) with
  | false => simpa using hb
  | true =>
    have e := byte_is hb
    cases hl : s.data.toList with
    | nil => rw [hl] at e; cases e
    | cons c t =>
      rw [hl] at e hp
      simp at e
      subst e
      simp [Lib.hasPrefix] at hp

theorem dot_is {s : ByteArray} (h : (s.toList == [46]) = true) : s = ⟨#[46]⟩ := by
  have e1 : s.data.toList = [46] := by rw [← Lib.toList_data]; simpa using h
  apply ByteArray.ext
  apply Array.ext'
  exact e1

set_option maxHeartbeats 400000 in
theorem law (s : ByteArray) (hs : s.size ≤ 9223372036854775807) (w : World) : Calls Try.prog 3 #[.string s] w fun e w' => e = .returned (.bool true) ∧ Below w.heap.size w w' := by
  have K5 := hide (bytes_any s w hs)
  go_enter Try.func3, Try.ntmps3
  go_wp2_with fail
  refine (unhide K5).mono ?_
  rintro e w' ⟨rfl, bv, rfl, hok⟩
  clear K5
  cases bv with
  | false =>
    clear hok
    go_wp2_with fail
    go_ret
    exact ⟨rfl, Below.refl _ _⟩
  | true =>
  have hs20 := hok rfl
  clear hok
  by_cases h16 : s.size ≤ 65536
  case neg =>
    go_wp2_with fail
    go_ret
    exact ⟨rfl, Below.refl _ _⟩
  have K6 := hide (valid_any s w h16)
  go_wp2_with fail
  refine (unhide K6).mono ?_
  rintro e w' ⟨rfl, bv, rfl, hok⟩
  clear K6
  cases bv with
  | false =>
    clear hok
    go_wp2_with fail
    go_ret
    exact ⟨rfl, Below.refl _ _⟩
  | true =>
  cases hd : (s.toList == [46]) with
  | true =>
    obtain rfl := dot_is hd
    clear hok hd
    have K7 : Hid (Calls Try.prog 7 #[.bool false, .string ⟨#[46]⟩] w fun e w' => e = .returned (.string ⟨#[47]⟩) ∧ Below w.heap.size w w') := zz_false ⟨#[46]⟩ w (by decide) (by decide)
    go_wp2_with fail
    refine (unhide K7).mono ?_
    rintro e w1 ⟨rfl, hB⟩
    have K8 := hide (zz_dot ⟨#[46]⟩ w1 (by rw [Lib.toList_data]; rfl))
    have HB := hide hB
    clear hB K7
    go_wp2_with fail
    refine (unhide K8).mono ?_
    rintro e w2 ⟨rfl, hB⟩
    have HB2 : Hid (Below w.heap.size w w2) := (unhide HB).trans (hB.mono (unhide HB).size)
    clear hB K8 HB
    go_wp2
    go_ret
    exact ⟨rfl, unhide HB2⟩
  | false =>
    obtain ⟨h1, hels⟩ := hok rfl hd
    have hp := head_not hels
    have h0 : 0 < s.size := by omega
    have hfb := first_not h0 hp
    have hcl := clean_ok hels
    have K7 := zz_false s w h16 hp
    rw [hcl, ← slash_list] at K7
    have K7 : Hid (Calls Try.prog 7 #[.bool false, .string s] w fun e w' => e = .returned (.string ((⟨#[47]⟩ : ByteArray) ++ s)) ∧ Below w.heap.size w w') := K7
    have hz : ((s.size : Int) == 0) = false := beq_eq_false_iff_ne.2 (by omega)
    have HD := hide hd
    clear hok hels hp hcl
    go_wp2_with fail
    refine (unhide K7).mono ?_
    rintro e w1 ⟨rfl, hB⟩
    have K8 := hide (zz_name s w1 (unhide HD))
    have HB := hide hB
    clear hB K7
    go_wp2_with fail
    refine (unhide K8).mono ?_
    rintro e w2 ⟨rfl, hB⟩
    have HB2 : Hid (Below w.heap.size w w2) := (unhide HB).trans (hB.mono (unhide HB).size)
    clear hB K8 HB
    go_wp2
    go_ret
    exact ⟨rfl, unhide HB2⟩
end Go.Proofs.Qxb6003813a.Cm
