import Derived.Test.Qxb6003813aRows
import Derived.Test.Qxb6003813aCmPlain
import Derived.WalkKit
import Derived.RowKit3
import Derived.Deep.LoopGhost
import Derived.Below
import Derived.Lib.Strings
import Derived.Lib.Bytes
set_option linter.unusedVariables false
namespace Go.Proofs.Qxb6003813a.Cm
open Go.RowKit Go.Lib

def Hid (p : Prop) : Prop := p
theorem hide {p : Prop} (h : p) : Hid p := h
theorem unhide {p : Prop} (h : Hid p) : p := h

/-- The ending is a Bool of which p holds (behind a name, so that the walk does not take it apart). -/
def Answers (p : Bool → Prop) (e : Ending) : Prop := ∃ bv, e = .returned (.bool bv) ∧ p bv
theorem answers {p : Bool → Prop} {e : Ending} (bv : Bool) (he : e = .returned (.bool bv)) (h : p bv) : Answers p e := ⟨bv, he, h⟩

def EOk (l : List UInt8) (bv : Bool) : Prop := bv = true → 2 ≤ l.length ∧ ∀ e ∈ Pa.els (l.drop 1), Ok e
theorem eok_false (l : List UInt8) : EOk l false := fun h => by cases h

theorem piece (s : ByteArray) (a b : Nat) : (s.extract a b).toList = (s.data.toList.drop a).take (b - a) := by
  rw [Lib.toList_data]
  simp [ByteArray.data_extract, Array.toList_extract, List.extract_eq_take_drop]

theorem seen_end' {s : ByteArray} {st : Nat} (h : Seen s.data.toList st s.size) (hok : Ok ((s.data.toList.drop st).take (s.size - st))) : Seen s.data.toList (s.size + 1) (s.size + 1) := by
  have e : s.data.toList.length = s.size := (Lib.size_eq s).symm
  rw [← e] at h hok ⊢
  exact seen_end h hok

theorem byte_at (s : ByteArray) (k : Nat) (h : k < s.size) : s.data.toList[k]? = some s[k] := by
  have h' : k < s.data.size := h
  simp [ByteArray.getElem_eq_getElem_data]

theorem byte_is {s : ByteArray} {k : Nat} {h : k < s.size} (hb : (((s[k]'h).toNat : Int) == 47) = true) : s.data.toList[k]? = some 47 := by
  rw [byte_at s k h]
  have : (s[k]'h).toNat = 47 := by simp at hb; omega
  exact congrArg some (UInt8.toNat_inj.1 this)

theorem byte_not {s : ByteArray} {k : Nat} {h : k < s.size} (hb : (((s[k]'h).toNat : Int) == 47) = false) : s.data.toList[k]? ≠ some 47 := by
  rw [byte_at s k h]
  intro e
  have e1 : s[k]'h = 47 := Option.some.inj e
  rw [e1] at hb
  simp at hb

set_option maxHeartbeats 1000000 in
theorem elems_any (s : ByteArray) (w : World) (hs : s.size ≤ 1048576) :
    Calls Try.prog 15 #[.string s] w fun e w' => w = w' ∧ Answers (EOk s.data.toList) e := by
  by_cases h2 : s.size < 2
  · go_enter Try.func15, Try.ntmps15
    go_wp2
    go_ret
    exact ⟨rfl, answers false rfl (eok_false _)⟩
  have h0 : 0 < s.size := by omega
  by_cases h47 : (((s[0]'h0).toNat : Int) != 47) = true
  · go_enter Try.func15, Try.ntmps15
    go_wp2
    go_ret
    exact ⟨rfl, answers false rfl (eok_false _)⟩
  have h47b : (((s[0]'h0).toNat : Int) != 47) = false := by simpa using h47
  have h2b : decide ((s.size : Int) < 2) = false := by simp; omega
  clear h47
  go_enter Try.func15, Try.ntmps15
  go_wp2_with fail
  go_loopg [3, 4] s.size (fun g a i wx => w = wx ∧ ∃ st k : Nat, a = .int .i64 st ∧ i = .int .i64 k ∧ 1 ≤ k ∧ k ≤ s.size + 1 ∧ g = s.size + 1 - k ∧ Seen s.data.toList st k)
  case atStart => exact ⟨rfl, 1, 1, rfl, rfl, Nat.le_refl _, by omega, by omega, seen_start (by rw [← Lib.size_eq]; omega)⟩
  case round =>
  obtain ⟨rfl, st, k, rfl, rfl, hk1, hk2, rfl, hS⟩ := hrel
  have hlen : s.data.toList.length = s.size := (Lib.size_eq s).symm
  by_cases hk : k < s.size
  · have hkz : (k : Int) ≤ (s.size : Int) := by omega
    have hne : ((k : Int) == (s.size : Int)) = false := by simp; omega
    by_cases hb : (((s[k]'hk).toNat : Int) == 47) = true
    · have hst : st ≤ k := by
        rcases hS with ⟨_, h, _⟩ | ⟨h, _⟩
        · exact h
        · omega
      by_cases e1 : (s.extract st k).toList.isEmpty = true
      · clear hS
        go_wp2_with fail
        go_ret
        exact ⟨rfl, answers false rfl (eok_false _)⟩
      have e1b : (s.extract st k).toList.isEmpty = false := by simpa using e1
      clear e1
      by_cases e2 : ((s.extract st k).toList == [46]) = true
      · clear hS
        go_wp2_with fail
        go_ret
        exact ⟨rfl, answers false rfl (eok_false _)⟩
      have e2b : ((s.extract st k).toList == [46]) = false := by simpa using e2
      clear e2
      by_cases e3 : ((s.extract st k).toList == [46, 46]) = true
      · clear hS
        go_wp2_with fail
        go_ret
        exact ⟨rfl, answers false rfl (eok_false _)⟩
      have e3b : ((s.extract st k).toList == [46, 46]) = false := by simpa using e3
      clear e3
      have hok : Ok ((s.data.toList.drop st).take (k - st)) := by
        rw [← piece]
        exact ⟨fun e => (by rw [e] at e1b; simp at e1b), fun e => (by rw [e] at e2b; simp at e2b), fun e => (by rw [e] at e3b; simp at e3b)⟩
      have HS := hide (seen_slash hS (by omega) (byte_is hb) hok)
      clear hS hok
      go_wp2_with fail
      go_roundg (s.size + 1 - (k + 1))
      case measure => omega
      case rel => exact ⟨rfl, k + 1, k + 1, by go_num, by go_num, by omega, by omega, rfl, unhide HS⟩
    · have hbb : (((s[k]'hk).toNat : Int) == 47) = false := by simpa using hb
      have HS := hide (seen_step hS (by omega) (byte_not hbb))
      clear hS hb
      go_wp2_with fail
      go_roundg (s.size + 1 - (k + 1))
      case measure => omega
      case rel => exact ⟨rfl, st, k + 1, rfl, by go_num, by omega, by omega, rfl, unhide HS⟩
  by_cases hke : k = s.size
  · subst hke
    have hkz : (s.size : Int) ≤ (s.size : Int) := by omega
    have hst : st ≤ s.size := by
      rcases hS with ⟨_, h, _⟩ | ⟨h, _⟩
      · exact h
      · omega
    have heqb : ((s.size : Int) == (s.size : Int)) = true := by simp
    by_cases e1 : (s.extract st s.size).toList.isEmpty = true
    · clear hS
      go_wp2_with fail
      go_ret
      exact ⟨rfl, answers false rfl (eok_false _)⟩
    have e1b : (s.extract st s.size).toList.isEmpty = false := by simpa using e1
    clear e1
    by_cases e2 : ((s.extract st s.size).toList == [46]) = true
    · clear hS
      go_wp2_with fail
      go_ret
      exact ⟨rfl, answers false rfl (eok_false _)⟩
    have e2b : ((s.extract st s.size).toList == [46]) = false := by simpa using e2
    clear e2
    by_cases e3 : ((s.extract st s.size).toList == [46, 46]) = true
    · clear hS
      go_wp2_with fail
      go_ret
      exact ⟨rfl, answers false rfl (eok_false _)⟩
    have e3b : ((s.extract st s.size).toList == [46, 46]) = false := by simpa using e3
    clear e3
    have hok : Ok ((s.data.toList.drop st).take (s.size - st)) := by
      rw [← piece]
      exact ⟨fun e => (by rw [e] at e1b; simp at e1b), fun e => (by rw [e] at e2b; simp at e2b), fun e => (by rw [e] at e3b; simp at e3b)⟩
    have HS := hide (seen_end' hS hok)
    clear hS hok
    go_wp2_with fail
    go_roundg (s.size + 1 - (s.size + 1))
    case measure => omega
    case rel => exact ⟨rfl, s.size + 1, s.size + 1, by go_num, by go_num, by omega, by omega, rfl, unhide HS⟩
  have hkl : ¬ (k : Int) ≤ (s.size : Int) := by omega
  have HD : Hid (EOk s.data.toList true) := fun _ => ⟨by omega, seen_done (by rw [hlen]; rw [show s.size + 1 = k by omega]; exact hS)⟩
  clear hS
  go_wp2_with fail
  go_ret
  exact ⟨rfl, answers true rfl (unhide HD)⟩

def BOk (s : ByteArray) (bv : Bool) : Prop := bv = true → s.size ≤ 1048576
theorem bytes_any (s : ByteArray) (w : World) (hs : s.size ≤ 9223372036854775807) : Calls Try.prog 5 #[.string s] w fun e w' => w = w' ∧ Answers (BOk s) e := by
  by_cases h : s.size ≤ 1048576
  · go_enter Try.func5, Try.ntmps5
    go_wp2
    go_ret
    exact ⟨rfl, answers true rfl (fun _ => h)⟩
  · go_enter Try.func5, Try.ntmps5
    go_wp2
    go_ret
    exact ⟨rfl, answers false rfl (fun h => by cases h)⟩

def VOk (s : ByteArray) (bv : Bool) : Prop := bv = true → (s.toList == [46]) = false → 1 ≤ s.size ∧ ∀ e ∈ Pa.els s.data.toList, Ok e

theorem slash_list (s : ByteArray) : ((⟨#[47]⟩ : ByteArray) ++ s).data.toList = 47 :: s.data.toList := by
  simp [ByteArray.data_append]

set_option maxHeartbeats 400000 in
theorem valid_any (s : ByteArray) (w : World) (hs : s.size ≤ 65536) : Calls Try.prog 6 #[.string s] w fun e w' => w = w' ∧ Answers (VOk s) e := by
  by_cases h : (s.toList == [46]) = true
  · go_enter Try.func6, Try.ntmps6
    go_wp2
    go_ret
    exact ⟨rfl, answers true rfl (fun _ h' => by rw [h] at h'; cases h')⟩
  have hb : (s.toList == [46]) = false := by simpa using h
  clear h
  have hsz : ((⟨#[47]⟩ : ByteArray) ++ s).size = s.size + 1 := by rw [Lib.size_eq, slash_list, Lib.size_eq]; rfl
  have K := hide (elems_any ((⟨#[47]⟩ : ByteArray) ++ s) w (by omega))
  go_enter Try.func6, Try.ntmps6
  go_wp2_with fail
  refine (unhide K).mono ?_
  rintro e w' ⟨rfl, bv, rfl, hok⟩
  have HO : Hid (VOk s bv) := fun h1 _ => by
    have := hok h1
    rw [slash_list] at this
    have h1 := this.1
    rw [List.length_cons] at h1
    have e1 := Lib.size_eq s
    exact ⟨by omega, this.2⟩
  clear hok K
  go_wp2
  go_ret
  exact ⟨rfl, answers bv rfl (unhide HO)⟩
end Go.Proofs.Qxb6003813a.Cm
