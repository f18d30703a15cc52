import Derived.Test.Qxb6003791aNtLaw
import Derived.ProofKit
import Derived.OpenShut
import Derived.ShutString
import Derived.ChangeOld
set_option linter.unusedVariables false
namespace Go.Proofs.Qxb6003791a.Nt
open Go.ChangeShapes Go.WideShapes Go.ChangeAt Go.RowKit
open Go.ChangeMaps (open_string shut_string)

theorem own : ownKnob Try.prog.godebug = none := by kernel_rfl
theorem laidOut : laidOutB Try.prog = true := by kernel_rfl

/-- A slice of strings that came in: its cells by their index. -/
theorem came_strings {H : Type} {enc : TypeId × Value → H} {W : World} {a : Option Addr} {len cap base : Nat} {d : DataW H} {p : List MemPlace}
    (h : DataW.Trod enc Try.prog W base (fun _ => true) true 62 (.slice a len cap) d p) :
    ∃ (b off : Nat) (Ss : Nat → ByteArray), len ≤ 9223372036854775807 ∧ (a = none → len = 0 ∧ cap = 0) ∧ (0 < len → a = some ⟨b, off, none⟩) ∧ (∀ i, i < len → W.cell? ⟨b, off + i, none⟩ = some (.string (Ss i))) ∧ ∀ i, i < len → (Ss i).size ≤ 9223372036854775807 := by
  obtain ⟨fuel, hf⟩ := h
  rcases open_strings Try.underlying62 Try.underlying9 (by kernel_rfl) hf with ⟨hcs, _⟩ | ⟨x, l, c, ss, hcs, _, hl, hm, hz, _, hcell, hws⟩
  · simp [Value.cells] at hcs
    obtain ⟨rfl, rfl, rfl⟩ := hcs
    exact ⟨0, 0, fun _ => ByteArray.empty, by omega, fun _ => ⟨rfl, rfl⟩, fun h => absurd h (by omega), fun i hi => absurd hi (by omega), fun i hi => absurd hi (by omega)⟩
  · simp [Value.cells] at hcs
    obtain ⟨rfl, rfl, rfl⟩ := hcs
    simp at hz
    unfold maxLen at hm hws
    obtain ⟨b, off, spot⟩ := x
    refine ⟨b, off, fun i => ss.getD i ByteArray.empty, by omega, fun h => (by cases h), fun h => ?_, fun i hi => ?_, fun i hi => ?_⟩
    · have := World.cell?_spot (hcell 0 (by omega))
      have hsp : spot = none := by simpa [Addr.add] using this
      rw [hsp]
    · have h := hcell i (by omega)
      have hsp : spot = none := by have := World.cell?_spot (hcell 0 (by omega)); simpa [Addr.add] using this
      subst hsp
      rw [Addr.add_mid] at h
      exact h
    · have hlt : i < ss.length := by omega
      show (ss.getD i ByteArray.empty).size ≤ _
      have e : ss.getD i ByteArray.empty = ss[i] := by simp [List.getD, hlt]
      rw [e]
      exact hws _ (List.getElem_mem hlt)

set_option maxRecDepth 100000 in
theorem lifted (os : Os) (started : os.Started) (H : Type) (enc : TypeId × Value → H) :
    ReturnsInHanded {} Try.checked os 6 .any (Rows.fnNewTableIsRendezvousTopNSpec.pre6 enc Try.prog Try.f6 Rows.fnNewTableIsRendezvousTopNRow.domain false) (Rows.fnNewTableIsRendezvousTopNSpec.post enc Try.prog Try.f6 false true false false) := by
  refine returnsInHanded_of_change (C := Try.checked) own started (by kernel_rfl) Try.func6
    (ChangeSpec.witness6 (enc := enc) (C := Try.checked) false ⟨#[], #[.slice none 0 0, .string ByteArray.empty, .int .i64 0], []⟩ 8 (by kernel_rfl) (by kernel_rfl) (by kernel_rfl) (by kernel_rfl)) ?_
  intro W base args ds gs before hval0 hW hcnd _
  have hval : ∀ (j : Nat) t v, Try.f6.params[j]? = some t → args[j]? = some v → Value.okWide Try.prog W .any base t v := hval0
  have hW' := hW
  obtain ⟨p, q, hA0, hV, rfl, hfz, hnd⟩ := hW
  have hA : DataW.TrodAll enc Try.prog W 0 (fun _ => true) true Try.f6.params.toList args.toList ds p := hA0
  rw [Try.params6] at hA hval
  obtain ⟨v0, vs0, d0, ds0, p0, q0, hargs, rfl, rfl, h0, r0⟩ := trodAll_cons hA
  obtain ⟨v1, vs1, d1, ds1, p1, q1, rfl, rfl, rfl, h1, r1⟩ := trodAll_cons r0
  obtain ⟨v2, vs2, d2, ds2, p2, q2, rfl, rfl, rfl, h2, r2⟩ := trodAll_cons r1
  obtain ⟨rfl, rfl, rfl⟩ := trodAll_nil r2
  obtain rfl : args = #[v0, v1, v2] := by cases args; simp_all
  obtain ⟨rfl, rfl⟩ := trodVars_none hV
  obtain ⟨a0, len0, cap0, rfl⟩ := okWide_slice Try.underlying62 (hval 0 62 v0 rfl rfl)
  have lt0 : ∀ x ∈ p0, x.block < W.heap.size := by obtain ⟨m, hm⟩ := h0; exact DataW.trod_lt m _ _ _ hm
  obtain ⟨b, off, Ss, hm, hn, ha, hcV, hcS⟩ := came_strings h0
  obtain ⟨me, rfl, rfl, rfl, hme⟩ := open_string Try.underlying9 (hval 1 9 v1 rfl rfl) h1
  obtain ⟨ow, rfl, rfl, rfl, wow⟩ := open_int Try.underlying3 (hval 2 3 v2 rfl rfl) h2
  clear hA0 hval0
  refine (law a0 b off len0 cap0 Ss me ow W hm (by have := hme; unfold maxLen at this; omega) (bounds_i64 wow) hn ha hcV hcS).mono fun e W' ⟨he, bel⟩ => ?_
  subst he
  exact ⟨_, rfl, _, _, _, [], _, [], hW', trodAll_mk1 (shut_bool Try.underlying4 _),
    (trodAll_cons_mk (Below.trod laidOut (by kernel_rfl) (of_decide_eq_true (by kernel_rfl)) h0 bel lt0)
    (trodAll_cons_mk (shut_string Try.underlying9 hme)
    (trodAll_cons_mk (shut_int Try.underlying3 wow) trodAll_mk0))), rfl, bel.frame _, fun h => by cases h⟩

theorem over : Rows.fnNewTableIsRendezvousTopNRow.holds Try.pinned (OpenSpec.ofChange Rows.fnNewTableIsRendezvousTopNSpec) :=
  OpenClaim.holds_of_wide 6 Try.f6 rfl rfl rfl rfl rfl rfl rfl ⟨rfl, rfl, rfl, rfl, rfl⟩ rfl rfl rfl rfl rfl (by kernel_rfl) Try.func6 (by kernel_rfl)
    (of_decide_eq_true (by kernel_rfl)) (by unfold Func.isWrapper; first | (rw [if_pos (by decide +kernel)]; kernel_rfl) | (rw [if_neg (by decide +kernel)]; exact ⟨rfl, rfl⟩))
    (fun os started H enc _ => lifted os started H enc)
end Go.Proofs.Qxb6003791a.Nt
namespace Go.Proofs.Qxb6003791a
/-- THE STATEMENT. -/
theorem newTableProved : Rows.FnNewTableIsRendezvousTopNSaid := Nt.over
end Go.Proofs.Qxb6003791a
