import Derived.Test.Qxb6003791aRows
import Derived.WalkKit
import Derived.Deep.OwnRows
import Derived.Deep.LoopGhost
import Derived.Deep.MidRow
import Derived.Deep.QuietTactic
import Derived.BigQuiet
import Derived.WalkSpells
set_option linter.unusedVariables false
namespace Go.Proofs.Qxb6003791a.Nt
open Go.RowKit

theorem hide {p : Prop} (h : p) : Hid p := h
theorem unhide {p : Prop} (h : Hid p) : p := h

def mix1 (x : Int) : Int := IntKind.u64.wrap (bits BinOp.xor IntKind.u64 x (x / 1073741824) * 13787848793156543929)
def mix2 (x : Int) : Int := IntKind.u64.wrap (bits BinOp.xor IntKind.u64 x (x / 134217728) * 10723151780598845931)
def mix3 (x : Int) : Int := bits BinOp.xor IntKind.u64 x (x / 2147483648)
/-- What mix computes. -/
def mixV (x : Int) : Int := mix3 (mix2 (mix1 x))

set_option maxHeartbeats 400000 in
theorem mix_any (x : Int) (w : World) : Calls Try.prog 45 #[.int .u64 x] w fun e w' => e = .returned (.int .u64 (mixV x)) ∧ w = w' := by
  go_enter Try.func45, Try.ntmps45
  go_wp2
  go_ret
  refine ⟨?_, rfl⟩
  simp only [mixV, mix3, mix2, mix1]
  rfl

set_option maxHeartbeats 400000 in
theorem zmix_any (x : Int) (w : World) : Calls Try.prog 36 #[.int .u64 x] w fun e w' => e = .returned (.int .u64 (mixV x)) ∧ w = w' := by
  go_enter Try.func36, Try.ntmps36
  go_wp2_with (go_at_call 45; refine (mix_any _ _).mono ?_; rintro e w' ⟨rfl, rfl⟩)
  go_ret
  exact ⟨rfl, rfl⟩

def hstep (h : Int) (c : UInt8) : Int := IntKind.u64.wrap (bits BinOp.xor IntKind.u64 h (IntKind.u64.wrap ↑c.toNat) * 1099511628211)
def hashTo (l : List UInt8) : Int := l.foldl hstep 14695981039346656037
/-- What hashKey computes. -/
def hashV (s : ByteArray) : Int := mixV (hashTo s.data.toList)

theorem hash_snoc (s : ByteArray) (k : Nat) (h : k < s.size) : hashTo (s.data.toList.take (k + 1)) = hstep (hashTo (s.data.toList.take k)) s[k] := by
  rw [List.take_succ_eq_append_getElem (by simpa using h), hashTo, List.foldl_append]
  rfl

set_option maxHeartbeats 400000 in
theorem hash_any (s : ByteArray) (w : World) (hs : s.size ≤ 1048576) :
    Calls Try.prog 43 #[.string s] w fun e w' => e = .returned (.int .u64 (hashV s)) ∧ w = w' := by
  go_enter Try.func43, Try.ntmps43
  go_wp2
  go_loop [3, 4] (fun h i => ∃ k : Nat, k ≤ s.size ∧ i = .int .i64 k ∧ h = .int .u64 (hashTo (s.data.toList.take k))) (fun _ i => s.size - (intOf i).toNat)
  case atStart => exact ⟨0, Nat.zero_le _, rfl, rfl⟩
  case round =>
    obtain ⟨k, hk, rfl, rfl⟩ := hrel
    by_cases hlt : k < s.size
    · have HS := hide (hash_snoc s k hlt)
      generalize hashTo (s.data.toList.take k) = x at *
      go_wp2
      go_round
      case rel => exact ⟨k + 1, by omega, by go_num, by rw [unhide HS]; rfl⟩
      case measure => simp [intOf]; omega
    · have HF : Hid (hashTo (s.data.toList.take k) = hashTo s.data.toList) := by
        rw [List.take_of_length_le (by simp; omega)]; exact rfl
      generalize hashTo (s.data.toList.take k) = x at *
      go_wp2_with (go_at_call 45; refine (mix_any _ _).mono ?_; rintro e w' ⟨rfl, rfl⟩)
      go_ret
      exact ⟨by rw [unhide HF]; rfl, rfl⟩

set_option maxHeartbeats 400000 in
theorem zhash_any (s : ByteArray) (w : World) (hs : s.size ≤ 1048576) : Calls Try.prog 34 #[.string s] w fun e w' => e = .returned (.int .u64 (hashV s)) ∧ w = w' := by
  go_enter Try.func34, Try.ntmps34
  go_wp2_with (go_at_call 43; refine (hash_any _ _ hs).mono ?_; rintro e w' ⟨rfl, rfl⟩)
  go_ret
  exact ⟨rfl, rfl⟩
end Go.Proofs.Qxb6003791a.Nt
