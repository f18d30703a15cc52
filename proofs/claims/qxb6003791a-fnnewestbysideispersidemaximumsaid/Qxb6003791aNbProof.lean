import Derived.Test.Qxb6003791aNbLaw
import Derived.ProofKit
import Derived.OpenShut
import Derived.ShutString
import Derived.ChangeOld
import Derived.Deep.Matrix
set_option linter.unusedVariables false
namespace Go.Proofs.Qxb6003791a.Nb
open Go.ChangeShapes Go.WideShapes Go.ChangeAt Go.RowKit

theorem own : ownKnob Try.prog.godebug = none := by kernel_rfl
theorem laidOut : laidOutB Try.prog = true := by kernel_rfl

/-- A slice of ints that came in: its cells by their index. -/
theorem came_ints {H : Type} {enc : TypeId × Value → H} {W : World} {a : Option Addr} {len cap base : Nat} {d : DataW H} {p : List MemPlace}
    (h : DataW.Trod enc Try.prog W base (fun _ => true) true 54 (.slice a len cap) d p) :
    ∃ (b off : Nat) (Z : Nat → Int), len ≤ 9223372036854775807 ∧ (a = none → len = 0 ∧ cap = 0) ∧ (0 < len → a = some ⟨b, off, none⟩) ∧ (∀ i, i < len → W.cell? ⟨b, off + i, none⟩ = some (.int .i64 (Z i))) ∧ ∀ i, i < len → (Lit.int .i64 (Z i)).wf = true := by
  obtain ⟨fuel, hf⟩ := h
  rcases open_ints Try.underlying54 Try.underlying3 (by kernel_rfl) hf with ⟨hcs, _⟩ | ⟨x, l, c, zs, hcs, _, hl, hm, hz, _, hcell, hws⟩
  · simp [Value.cells] at hcs
    obtain ⟨rfl, rfl, rfl⟩ := hcs
    exact ⟨0, 0, fun _ => 0, by omega, fun _ => ⟨rfl, rfl⟩, fun h => absurd h (by omega), fun i hi => absurd hi (by omega), fun i hi => absurd hi (by omega)⟩
  · simp [Value.cells] at hcs
    obtain ⟨rfl, rfl, rfl⟩ := hcs
    simp at hz
    unfold maxLen at hm
    obtain ⟨b, off, spot⟩ := x
    refine ⟨b, off, fun i => zs.getD i 0, by omega, fun h => (by cases h), fun h => ?_, fun i hi => ?_, fun i hi => ?_⟩
    · have := World.cell?_spot (hcell 0 (by omega))
      have hsp : spot = none := by simpa [Addr.add] using this
      rw [hsp]
    · have h := hcell i (by omega)
      have hsp : spot = none := by have := World.cell?_spot (hcell 0 (by omega)); simpa [Addr.add] using this
      subst hsp
      rw [Addr.add_mid] at h
      exact h
    · have hlt : i < zs.length := by omega
      show (Lit.int .i64 (zs.getD i 0)).wf = true
      have e : zs.getD i 0 = zs[i] := by simp [List.getD, hlt]
      rw [e]
      exact hws _ (List.getElem_mem hlt)

/-- Rows of numbers that came in. -/
theorem came_rows {H : Type} {enc : TypeId × Value → H} {W : World} {a : Option Addr} {len cap base : Nat} {d : DataW H} {p : List MemPlace}
    (h : DataW.Trod enc Try.prog W base (fun _ => true) true 55 (.slice a len cap) d p) :
    ∃ (b off : Nat) (A : Nat → Option Addr) (L C RB RO : Nat → Nat) (Z : Nat → Nat → Int), len ≤ 9223372036854775807 ∧ (a = none → len = 0 ∧ cap = 0) ∧ (0 < len → a = some ⟨b, off, none⟩) ∧
      (∀ i, i < len → W.cell? ⟨b, off + i, none⟩ = some (.slice (A i) (L i) (C i))) ∧ (∀ i, i < len → L i ≤ 9223372036854775807) ∧ (∀ i, i < len → 0 < L i → A i = some ⟨RB i, RO i, none⟩) ∧
      (∀ r, r < len → ∀ c, c < L r → W.cell? ⟨RB r, RO r + c, none⟩ = some (.int .u64 (Z r c))) := by
  obtain ⟨fuel, hf⟩ := h
  rcases Go.Deep.open_int_rows Try.underlying55 Try.underlying24 Try.underlying34 (by kernel_rfl) (by kernel_rfl) hf with ⟨hcs, _⟩ | ⟨x, l, c, A, L, C, Z, hcs, _, hl, hm, _, hr⟩
  · simp [Value.cells] at hcs
    obtain ⟨rfl, rfl, rfl⟩ := hcs
    exact ⟨0, 0, fun _ => none, fun _ => 0, fun _ => 0, fun _ => 0, fun _ => 0, fun _ _ => 0, by omega, fun _ => ⟨rfl, rfl⟩, fun h => absurd h (by omega), fun i hi => absurd hi (by omega), fun i hi => absurd hi (by omega), fun i hi => absurd hi (by omega), fun i hi => absurd hi (by omega)⟩
  · simp [Value.cells] at hcs
    obtain ⟨rfl, rfl, rfl⟩ := hcs
    unfold maxLen at hm hr
    obtain ⟨b, off, spot⟩ := x
    have hA : ∀ i, i < len → 0 < L i → A i = some ⟨((A i).map (·.block)).getD 0, ((A i).map (·.off)).getD 0, none⟩ ∧ ∀ c, c < L i → W.cell? ⟨((A i).map (·.block)).getD 0, ((A i).map (·.off)).getD 0 + c, none⟩ = some (.int .u64 ((Z i).getD c 0)) := fun i hi hLi => by
      obtain ⟨_, h2, h3, h4, _, h6, h7⟩ := hr i (by omega)
      cases hA : A i with
      | none => have := h6 hA; omega
      | some a' =>
        obtain ⟨b', o', sp⟩ := a'
        obtain ⟨_, h8⟩ := h7 _ hA
        have hsp : sp = none := by have := World.cell?_spot (h8 0 (by omega)); simpa [Addr.add] using this
        subst hsp
        refine ⟨rfl, fun c hc => ?_⟩
        have := h8 c (by omega)
        rw [Addr.add_mid] at this
        exact this
    refine ⟨b, off, A, L, C, fun i => ((A i).map (·.block)).getD 0, fun i => ((A i).map (·.off)).getD 0, fun r c => (Z r).getD c 0, by omega, fun h => (by cases h), fun h => ?_, fun i hi => ?_, fun i hi => ?_, fun i hi hLi => (hA i hi hLi).1, fun r hrl c hc => (hA r hrl (by omega)).2 c hc⟩
    · have := World.cell?_spot (hr 0 (by omega)).1
      have hsp : spot = none := by simpa [Addr.add] using this
      rw [hsp]
    · have h := (hr i (by omega)).1
      have hsp : spot = none := by have := World.cell?_spot (hr 0 (by omega)).1; simpa [Addr.add] using this
      subst hsp
      rw [Addr.add_mid] at h
      exact h
    · obtain ⟨_, h2, h3, _⟩ := hr i (by omega)
      omega

set_option maxRecDepth 100000 in
theorem lifted (os : Os) (started : os.Started) (H : Type) (enc : TypeId × Value → H) :
    ReturnsInHanded {} Try.checked os 5 .any (Rows.fnNewestBySideIsPerSideMaximumSpec.pre6 enc Try.prog Try.f5 Rows.fnNewestBySideIsPerSideMaximumRow.domain false) (Rows.fnNewestBySideIsPerSideMaximumSpec.post enc Try.prog Try.f5 false true false false) := by
  refine returnsInHanded_of_change (C := Try.checked) own started (by kernel_rfl) Try.func5
    (ChangeSpec.witness6 (enc := enc) (C := Try.checked) false ⟨#[], #[.slice none 0 0, .int .i64 0, .slice none 0 0, .int .i64 0], []⟩ 8 (by kernel_rfl) (by kernel_rfl) (by kernel_rfl) (by kernel_rfl)) ?_
  intro W base args ds gs before hval0 hW hcnd _
  have hval : ∀ (j : Nat) t v, Try.f5.params[j]? = some t → args[j]? = some v → Value.okWide Try.prog W .any base t v := hval0
  have hW' := hW
  obtain ⟨p, q, hA0, hV, rfl, hfz, hnd⟩ := hW
  have hA : DataW.TrodAll enc Try.prog W 0 (fun _ => true) true Try.f5.params.toList args.toList ds p := hA0
  rw [Try.params5] at hA hval
  obtain ⟨v0, vs0, d0, ds0, p0, q0, hargs, rfl, rfl, h0, r0⟩ := trodAll_cons hA
  obtain ⟨v1, vs1, d1, ds1, p1, q1, rfl, rfl, rfl, h1, r1⟩ := trodAll_cons r0
  obtain ⟨v2, vs2, d2, ds2, p2, q2, rfl, rfl, rfl, h2, r2⟩ := trodAll_cons r1
  obtain ⟨v3, vs3, d3, ds3, p3, q3, rfl, rfl, rfl, h3, r3⟩ := trodAll_cons r2
  obtain ⟨rfl, rfl, rfl⟩ := trodAll_nil r3
  obtain rfl : args = #[v0, v1, v2, v3] := by cases args; simp_all
  obtain ⟨rfl, rfl⟩ := trodVars_none hV
  obtain ⟨a0, len0, cap0, rfl⟩ := okWide_slice Try.underlying54 (hval 0 54 v0 rfl rfl)
  obtain ⟨self, rfl, rfl, rfl, wself⟩ := open_int Try.underlying3 (hval 1 3 v1 rfl rfl) h1
  obtain ⟨a2, len2, cap2, rfl⟩ := okWide_slice Try.underlying55 (hval 2 55 v2 rfl rfl)
  obtain ⟨kk, rfl, rfl, rfl, wkk⟩ := open_int Try.underlying3 (hval 3 3 v3 rfl rfl) h3
  have lt0 : ∀ x ∈ p0, x.block < W.heap.size := by obtain ⟨m, hm⟩ := h0; exact DataW.trod_lt m _ _ _ hm
  have lt2 : ∀ x ∈ p2, x.block < W.heap.size := by obtain ⟨m, hm⟩ := h2; exact DataW.trod_lt m _ _ _ hm
  obtain ⟨b0, off0, s, hl, hn0, ha0, hS, hSw⟩ := came_ints h0
  obtain ⟨b, off, A, L, C, RB, RO, Z, hm, hn, ha, hcV, hL, hAA, hZ⟩ := came_rows h2
  clear hA0 hval0
  refine (law_in a0 b0 off0 len0 cap0 s self kk a2 b off len2 cap2 A L C RB RO Z W hl hm wself hn0 ha0 hS hSw hn ha hcV hL hAA hZ).mono fun e W' ⟨he, bel⟩ => ?_
  subst he
  exact ⟨_, rfl, _, _, _, [], _, [], hW', trodAll_mk1 (shut_bool Try.underlying4 _),
    (trodAll_cons_mk (Below.trod laidOut (by kernel_rfl) (of_decide_eq_true (by kernel_rfl)) h0 bel lt0)
    (trodAll_cons_mk (shut_int Try.underlying3 wself)
    (trodAll_cons_mk (Below.trod laidOut (by kernel_rfl) (of_decide_eq_true (by kernel_rfl)) h2 bel lt2)
    (trodAll_cons_mk (shut_int Try.underlying3 wkk) trodAll_mk0)))), rfl, bel.frame _, fun h => by cases h⟩

theorem over : Rows.fnNewestBySideIsPerSideMaximumRow.holds Try.pinned (OpenSpec.ofChange Rows.fnNewestBySideIsPerSideMaximumSpec) :=
  OpenClaim.holds_of_wide 5 Try.f5 rfl rfl rfl rfl rfl rfl rfl ⟨rfl, rfl, rfl, rfl, rfl⟩ rfl rfl rfl rfl rfl (by kernel_rfl) Try.func5 (by kernel_rfl)
    (of_decide_eq_true (by kernel_rfl)) (by unfold Func.isWrapper; first | (rw [if_pos (by decide +kernel)]; kernel_rfl) | (rw [if_neg (by decide +kernel)]; exact ⟨rfl, rfl⟩))
    (fun os started H enc _ => lifted os started H enc)
end Go.Proofs.Qxb6003791a.Nb
namespace Go.Proofs.Qxb6003791a
/-- THE STATEMENT. -/
theorem newestBySideProved : Rows.FnNewestBySideIsPerSideMaximumSaid := Nb.over
end Go.Proofs.Qxb6003791a
