import Derived.Test.Qxb6003791aNbMap
set_option linter.unusedVariables false
namespace Go.Proofs.Qxb6003791a.Nb
open Go.RowKit Go.Maps

theorem Rows.below {w w' : World} {q : Option Addr} {m kk : Nat} {x : Nat → Int} (h : Rows w q m kk x) (hb : Below w.heap.size w w') : Rows w' q m kk x := fun h0 => by
  obtain ⟨B, hq, hB, hr⟩ := h h0
  refine ⟨B, hq, by have := hb.size; omega, fun r hrm => ?_⟩
  obtain ⟨R, n, h1, h2, h3, h4⟩ := hr r hrm
  exact ⟨R, n, by have := hb.size; omega, h2, by rw [hb.cell (p := ⟨B, r, none⟩) hB]; exact h3, by rw [hb.cell (p := ⟨R, kk, none⟩) h1]; exact h4⟩

set_option maxHeartbeats 1000000 in
theorem wrap_any (SB sl m kk : Nat) (sq q : Option Addr) (self : Int) (x s : Nat → Int) (w : World) (hm : m ≤ 1024) (hml : m ≤ sl) (hsl : sl ≤ 1048576) (hkk : kk ≤ 65536) (hself : (Lit.int .i64 self).wf = true)
    (hsq : 0 < m → sq = some ⟨SB, 0, none⟩) (hs : ∀ i, i < m → w.cell? ⟨SB, i, none⟩ = some (.int .i64 (s i))) (hsw : ∀ i, i < m → (Lit.int .i64 (s i)).wf = true) (hR : Rows w q m kk x) :
    Calls Try.prog 24 #[.slice sq sl sl, .int .i64 self, .slice q m m, .int .i64 kk] w fun e w' => ∃ g cap, e = .returned (.slice (some ⟨g, 0, none⟩) (bl x s self m).length cap) ∧ w.heap.size ≤ g ∧ ListAt w' g ((bl x s self m).mergeSort leI) ∧ Below w.heap.size w w' := by
  have HSQ := hide hsq
  have HS := hide hs
  have HSW := hide hsw
  have HR := hide hR
  clear hsq hs hsw hR
  go_enter Try.func24, Try.ntmps24
  go_wp2_with fail
  refine (newest_any w.heap.size SB sl m kk sq q self x s _ hm hml hsl hkk hself ?x1 ?x2 (unhide HSQ) ?x3 (unhide HSW) ?x4).mono ?_
  case x1 => simp
  case x2 => simp
  case x3 =>
    intro i hi
    rw [((Below.refl _ w).alloc (Nat.le_refl _) _).cell (p := ⟨SB, i, none⟩) (World.block_lt_of_cell? _ _ (unhide HS i hi))]
    exact unhide HS i hi
  case x4 => exact (unhide HR).below ((Below.refl _ w).alloc (Nat.le_refl _) _)
  · rintro e w' ⟨g, cap, L, rfl, hA, hg, hL, hB⟩
    have hl : L.length = (bl x s self m).length := by rw [hA, List.length_mergeSort]
    rw [hA] at hL
    rw [hl]
    clear hA hl
    have HG := hide hg
    have HL := hide hL
    have HB := hide hB
    clear hg hL hB
    go_wp2
    go_ret
    refine ⟨g, cap, rfl, ?_, unhide HL, ?_⟩
    · have := unhide HG; simp at this; omega
    · exact ((Below.refl _ w).alloc (Nat.le_refl _) _).trans ((unhide HB).mono (by simp))
end Go.Proofs.Qxb6003791a.Nb
