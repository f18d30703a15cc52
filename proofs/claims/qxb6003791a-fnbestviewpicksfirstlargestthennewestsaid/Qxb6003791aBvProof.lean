import Derived.Test.Qxb6003791aBvLaw
import Derived.ProofKit
import Derived.OpenShut
import Derived.ShutString
import Derived.ChangeOld
import Derived.Deep.Grids
set_option linter.unusedVariables false
namespace Go.Proofs.Qxb6003791a.Bv
open Go.ChangeShapes Go.WideShapes Go.ChangeAt Go.RowKit Go.Deep

theorem own : ownKnob Try.prog.godebug = none := by kernel_rfl
theorem laidOut : laidOutB Try.prog = true := by kernel_rfl

set_option maxRecDepth 1000000 in
set_option maxHeartbeats 1000000 in
theorem law_big (a0 a1 a2 a3 : Option Addr) (l0 c0 l1 c1 l2 c2 l3 c3 : Nat) (w : World)
    (h0 : l0 ≤ 9223372036854775807) (h1 : l1 ≤ 9223372036854775807) (h2 : l2 ≤ 9223372036854775807) (h3 : l3 ≤ 9223372036854775807)
    (hbig : ¬ (l0 ≤ 1024 ∧ l1 ≤ 1024 ∧ l2 ≤ 1024 ∧ l3 ≤ 1024)) :
    Calls Try.prog 3 #[.slice a0 l0 c0, .slice a1 l1 c1, .slice a2 l2 c2, .slice a3 l3 c3] w fun e w' => e = .returned (.bool true) ∧ Below w.heap.size w w' := by
  have k7 := bytes_any a0 a1 a2 a3 l0 l1 l2 l3 c0 c1 c2 c3 w h0 h1 h2 h3
  by_cases hs : l0 + l1 + l2 + l3 ≤ 1048576
  · rw [decide_eq_true hs] at k7
    have K7 := hide k7
    clear k7
    rcases (show 1024 < l0 ∨ (l0 ≤ 1024 ∧ 1024 < l1) ∨ (l0 ≤ 1024 ∧ l1 ≤ 1024 ∧ 1024 < l2) ∨ (l0 ≤ 1024 ∧ l1 ≤ 1024 ∧ l2 ≤ 1024 ∧ 1024 < l3) from by omega) with h | h | h | h
    all_goals
      go_enter Try.func3, Try.ntmps3
      go_wp2_with fail
      refine (unhide K7).mono ?_
      rintro e w' ⟨rfl, rfl⟩
      go_wp2_with fail
      go_ret
      exact ⟨rfl, Below.refl _ _⟩
  · rw [decide_eq_false hs] at k7
    have K7 := hide k7
    clear k7
    go_enter Try.func3, Try.ntmps3
    go_wp2_with fail
    refine (unhide K7).mono ?_
    rintro e w' ⟨rfl, rfl⟩
    go_wp2_with fail
    go_ret
    exact ⟨rfl, Below.refl _ _⟩

/-- What the walk is told of a slice that came in: its cells by their index. -/
def Came (w : World) (a : Option Addr) (len cap : Nat) (V : Nat → Value) : Prop :=
  len ≤ 9223372036854775807 ∧ ∃ b off, (a = none → len = 0 ∧ cap = 0) ∧ (0 < len → a = some ⟨b, off, none⟩) ∧ ∀ i, i < len → w.cell? ⟨b, off + i, none⟩ = some (V i)

theorem came_none (w : World) (V : Nat → Value) : Came w none 0 0 V := ⟨by omega, 0, 0, fun _ => ⟨rfl, rfl⟩, fun h => absurd h (by omega), fun i hi => absurd hi (by omega)⟩

theorem came_some {w : World} {a : Addr} {len cap : Nat} {V : Nat → Value} (hl : len ≤ cap) (hm : cap ≤ maxLen) (hc : ∀ i, i < len → w.cell? (a.add i) = some (V i)) : Came w (some a) len cap V := by
  unfold maxLen at hm
  refine ⟨by omega, a.block, a.off, fun h => (by cases h), fun h => ?_, fun i hi => ?_⟩
  · obtain ⟨b, off, spot⟩ := a
    have := World.cell?_spot (hc 0 h)
    have hsp : spot = none := by simpa [Addr.add] using this
    rw [hsp]
  · obtain ⟨b, off, spot⟩ := a
    have h := hc i hi
    have hsp : spot = none := by have := World.cell?_spot (hc 0 (by omega)); simpa [Addr.add] using this
    subst hsp
    rw [Addr.add_mid] at h
    exact h

theorem law (a0 a1 a2 a3 : Option Addr) (l0 c0 l1 c1 l2 c2 l3 c3 : Nat) (Z0 : Nat → Int) (Z1 : Nat → Bool) (Z2 Z3 : Nat → Int) (w : World)
    (q0 : Came w a0 l0 c0 (fun i => .int .u8 (Z0 i))) (q1 : Came w a1 l1 c1 (fun i => .bool (Z1 i))) (q2 : Came w a2 l2 c2 (fun i => .int .u8 (Z2 i))) (q3 : Came w a3 l3 c3 (fun i => .int .u64 (Z3 i)))
    (r0 : ∀ i, i < l0 → 0 ≤ Z0 i ∧ Z0 i ≤ 255) (r2 : ∀ i, i < l2 → 0 ≤ Z2 i ∧ Z2 i ≤ 255) (r3 : ∀ i, i < l3 → 0 ≤ Z3 i) :
    Calls Try.prog 3 #[.slice a0 l0 c0, .slice a1 l1 c1, .slice a2 l2 c2, .slice a3 l3 c3] w fun e w' => e = .returned (.bool true) ∧ Below w.heap.size w w' := by
  obtain ⟨m0, b0, o0, n0, p0, v0⟩ := q0
  obtain ⟨m1, b1, o1, n1, p1, v1⟩ := q1
  obtain ⟨m2, b2, o2, n2, p2, v2⟩ := q2
  obtain ⟨m3, b3, o3, n3, p3, v3⟩ := q3
  by_cases hbig : l0 ≤ 1024 ∧ l1 ≤ 1024 ∧ l2 ≤ 1024 ∧ l3 ≤ 1024
  · exact law_main a0 a1 a2 a3 b0 o0 l0 c0 b1 o1 l1 c1 b2 o2 l2 c2 b3 o3 l3 c3 Z0 Z1 Z2 Z3 w hbig.1 hbig.2.1 hbig.2.2.1 hbig.2.2.2 n0 n1 n2 n3 p0 p1 p2 p3 v0 v1 v2 v3 r0 r2 r3
  · exact law_big a0 a1 a2 a3 l0 c0 l1 c1 l2 c2 l3 c3 w m0 m1 m2 m3 hbig

/-- A slice of integers, opened. -/
theorem came_ints {H : Type} {enc : TypeId × Value → H} {W : World} {t e : TypeId} {k : IntKind} {base : Nat} {a : Option Addr} {len cap : Nat} {d : DataW H} {p : List MemPlace}
    (ht : Try.prog.underlying t = some (.slice e)) (he : Try.prog.underlying e = some (.int k)) (hc : Try.prog.cellsOf e = 1)
    (h : DataW.Trod enc Try.prog W base (fun _ => true) true t (.slice a len cap) d p) :
    ∃ Z : Nat → Int, Came W a len cap (fun i => .int k (Z i)) ∧ ∀ i, i < len → (Lit.int k (Z i)).wf = true := by
  obtain ⟨fuel, hf⟩ := h
  rcases open_ints ht he hc hf with ⟨hcs, _⟩ | ⟨x, l, c, zs, hcs, _, hl, hm, hz, _, hcell, hwz⟩
  · simp [Value.cells] at hcs
    obtain ⟨rfl, rfl, rfl⟩ := hcs
    exact ⟨fun _ => 0, came_none _ _, fun i hi => absurd hi (by omega)⟩
  · simp [Value.cells] at hcs
    obtain ⟨rfl, rfl, rfl⟩ := hcs
    simp at hz
    refine ⟨fun i => zs.getD i 0, came_some hl hm (fun i hi => hcell i (by omega)), fun i hi => ?_⟩
    have hlt : i < zs.length := by omega
    show (Lit.int k (zs.getD i 0)).wf = true
    have e : zs.getD i 0 = zs[i] := by simp [List.getD, hlt]
    rw [e]
    exact hwz _ (List.getElem_mem hlt)

theorem came_bools {H : Type} {enc : TypeId × Value → H} {W : World} {t e : TypeId} {base : Nat} {a : Option Addr} {len cap : Nat} {d : DataW H} {p : List MemPlace}
    (ht : Try.prog.underlying t = some (.slice e)) (he : Try.prog.underlying e = some .bool) (hc : Try.prog.cellsOf e = 1)
    (h : DataW.Trod enc Try.prog W base (fun _ => true) true t (.slice a len cap) d p) :
    ∃ Z : Nat → Bool, Came W a len cap (fun i => .bool (Z i)) := by
  obtain ⟨fuel, hf⟩ := h
  rcases open_bools ht he hc hf with ⟨hcs, _⟩ | ⟨x, l, c, B, hcs, _, hl, hm, _, hcell⟩
  · simp [Value.cells] at hcs
    obtain ⟨rfl, rfl, rfl⟩ := hcs
    exact ⟨fun _ => false, came_none _ _⟩
  · simp [Value.cells] at hcs
    obtain ⟨rfl, rfl, rfl⟩ := hcs
    exact ⟨B, came_some hl hm (fun i hi => hcell i (by omega))⟩

set_option maxRecDepth 100000 in
theorem lifted (os : Os) (started : os.Started) (H : Type) (enc : TypeId × Value → H) :
    ReturnsInHanded {} Try.checked os 3 .any (Rows.fnBestViewPicksFirstLargestThenNewestSpec.pre6 enc Try.prog Try.f3 Rows.fnBestViewPicksFirstLargestThenNewestRow.domain false) (Rows.fnBestViewPicksFirstLargestThenNewestSpec.post enc Try.prog Try.f3 false true false false) := by
  refine returnsInHanded_of_change (C := Try.checked) own started (by kernel_rfl) Try.func3
    (ChangeSpec.witness6 (enc := enc) (C := Try.checked) false ⟨#[], #[.slice none 0 0, .slice none 0 0, .slice none 0 0, .slice none 0 0], []⟩ 8 (by kernel_rfl) (by kernel_rfl) (by kernel_rfl) (by kernel_rfl)) ?_
  intro W base args ds gs before hval0 hW hcnd _
  have hval : ∀ (j : Nat) t v, Try.f3.params[j]? = some t → args[j]? = some v → Value.okWide Try.prog W .any base t v := hval0
  have hW' := hW
  obtain ⟨p, q, hA0, hV, rfl, hfz, hnd⟩ := hW
  have hA : DataW.TrodAll enc Try.prog W 0 (fun _ => true) true Try.f3.params.toList args.toList ds p := hA0
  rw [Try.params3] at hA hval
  obtain ⟨v0, vs0, d0, ds0, p0, q0, hargs, rfl, rfl, h0, r0⟩ := trodAll_cons hA
  obtain ⟨v1, vs1, d1, ds1, p1, q1, rfl, rfl, rfl, h1, r1⟩ := trodAll_cons r0
  obtain ⟨v2, vs2, d2, ds2, p2, q2, rfl, rfl, rfl, h2, r2⟩ := trodAll_cons r1
  obtain ⟨v3, vs3, d3, ds3, p3, q3, rfl, rfl, rfl, h3, r3⟩ := trodAll_cons r2
  obtain ⟨rfl, rfl, rfl⟩ := trodAll_nil r3
  obtain rfl : args = #[v0, v1, v2, v3] := by cases args; simp_all
  obtain ⟨rfl, rfl⟩ := trodVars_none hV
  obtain ⟨a0, len0, cap0, rfl⟩ := okWide_slice Try.underlying22 (hval 0 22 v0 rfl rfl)
  obtain ⟨a1, len1, cap1, rfl⟩ := okWide_slice Try.underlying23 (hval 1 23 v1 rfl rfl)
  obtain ⟨a2, len2, cap2, rfl⟩ := okWide_slice Try.underlying22 (hval 2 22 v2 rfl rfl)
  obtain ⟨a3, len3, cap3, rfl⟩ := okWide_slice Try.underlying24 (hval 3 24 v3 rfl rfl)
  have lt0 : ∀ x ∈ p0, x.block < W.heap.size := by obtain ⟨m, hm⟩ := h0; exact DataW.trod_lt m _ _ _ hm
  have lt1 : ∀ x ∈ p1, x.block < W.heap.size := by obtain ⟨m, hm⟩ := h1; exact DataW.trod_lt m _ _ _ hm
  have lt2 : ∀ x ∈ p2, x.block < W.heap.size := by obtain ⟨m, hm⟩ := h2; exact DataW.trod_lt m _ _ _ hm
  have lt3 : ∀ x ∈ p3, x.block < W.heap.size := by obtain ⟨m, hm⟩ := h3; exact DataW.trod_lt m _ _ _ hm
  obtain ⟨Z0, w0, z0⟩ := came_ints Try.underlying22 Try.underlying5 (by kernel_rfl) h0
  obtain ⟨Z1, w1⟩ := came_bools Try.underlying23 Try.underlying4 (by kernel_rfl) h1
  obtain ⟨Z2, w2, z2⟩ := came_ints Try.underlying22 Try.underlying5 (by kernel_rfl) h2
  obtain ⟨Z3, w3, z3⟩ := came_ints Try.underlying24 Try.underlying34 (by kernel_rfl) h3
  clear hA0 hval0
  refine (law a0 a1 a2 a3 len0 cap0 len1 cap1 len2 cap2 len3 cap3 Z0 Z1 Z2 Z3 W w0 w1 w2 w3 (fun i hi => bounds_u8 (z0 i hi)) (fun i hi => bounds_u8 (z2 i hi)) (fun i hi => (bounds_u64 (z3 i hi)).1)).mono fun e W' ⟨he, bel⟩ => ?_
  subst he
  exact ⟨_, rfl, _, _, _, [], _, [], hW', trodAll_mk1 (shut_bool Try.underlying4 _),
    (trodAll_cons_mk (Below.trod laidOut (by kernel_rfl) (of_decide_eq_true (by kernel_rfl)) h0 bel lt0)
    (trodAll_cons_mk (Below.trod laidOut (by kernel_rfl) (of_decide_eq_true (by kernel_rfl)) h1 bel lt1)
    (trodAll_cons_mk (Below.trod laidOut (by kernel_rfl) (of_decide_eq_true (by kernel_rfl)) h2 bel lt2)
    (trodAll_cons_mk (Below.trod laidOut (by kernel_rfl) (of_decide_eq_true (by kernel_rfl)) h3 bel lt3) trodAll_mk0)))), rfl, bel.frame _, fun h => by cases h⟩

theorem over : Rows.fnBestViewPicksFirstLargestThenNewestRow.holds Try.pinned (OpenSpec.ofChange Rows.fnBestViewPicksFirstLargestThenNewestSpec) :=
  OpenClaim.holds_of_wide 3 Try.f3 rfl rfl rfl rfl rfl rfl rfl ⟨rfl, rfl, rfl, rfl, rfl⟩ rfl rfl rfl rfl rfl (by kernel_rfl) Try.func3 (by kernel_rfl)
    (of_decide_eq_true (by kernel_rfl)) (by unfold Func.isWrapper; first | (rw [if_pos (by decide +kernel)]; kernel_rfl) | (rw [if_neg (by decide +kernel)]; exact ⟨rfl, rfl⟩))
    (fun os started H enc _ => lifted os started H enc)

end Go.Proofs.Qxb6003791a.Bv
namespace Go.Proofs.Qxb6003791a
/-- THE STATEMENT. -/
theorem bestViewProved : Rows.FnBestViewPicksFirstLargestThenNewestSaid := Bv.over
end Go.Proofs.Qxb6003791a
