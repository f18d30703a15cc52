import Derived.Test.Qxb6003939aDoorLtFrame
set_option linter.unusedVariables false
namespace Go.Proofs.Qxb6003939aDoor.Lt
open Go.ChangeShapes Go.WideShapes Go.ChangeAt Go.RowKit

set_option maxRecDepth 100000 in
theorem b_lifted (os : Os) (started : os.Started) (H : Type) (enc : TypeId × Value → H) :
    ReturnsInHanded {} Tryd.checked os 4 .any (fun w args => (Rows.fnLabelTextReadsMPLSLabelSpec.pre enc Tryd.prog Tryd.f4 [] false w args ∧ laidMetH Tryd.prog laid3 w) ∧ sizedMet enc Tryd.prog Tryd.f4 (OpenSpec.ofChange Rows.fnLabelTextReadsMPLSLabelSpec) false w args)
      (Rows.fnLabelTextReadsMPLSLabelSpec.post enc Tryd.prog Tryd.f4 false true false false) := by
  refine returnsInHanded_of_change_and (C := Tryd.checked) (X := fun w _ => laidMetH Tryd.prog laid3 w) (fun _ _ _ hh h => h.of_heap hh) own started (by kernel_rfl) Tryd.func4
    (ChangeSpec.witness_at (enc := enc) (C := Tryd.checked) (os := os) (X := fun w _ => laidMetH Tryd.prog laid3 w) false (laidIn (World.holding Tryd.prog os ⟨#[], #[], []⟩)) #[.int .u32 0] 8 rfl (by kernel_rfl) (by kernel_rfl) (by kernel_rfl) (by kernel_rfl) (by kernel_rfl) (laidWorld_met os _)) ?_
  intro W base args ds gs before hval0 hW _ _ hL _
  have hval : ∀ (j : Nat) t v, Tryd.f4.params[j]? = some t → args[j]? = some v → Value.okWide Tryd.prog W .any base t v := hval0
  have hW' := hW
  obtain ⟨p, q, hA0, hV0, rfl, hfz, hnd⟩ := hW
  have hA : DataW.TrodAll enc Tryd.prog W 0 (fun _ => true) true Tryd.f4.params.toList args.toList ds p := hA0
  rw [Tryd.params4] at hA hval
  obtain ⟨v0, d0, rfl, rfl, h0⟩ := trodAll_one hA
  obtain ⟨rfl, rfl⟩ := trodVars_none hV0
  obtain ⟨n, rfl, rfl, rfl, hwn⟩ := open_int Tryd.underlying22 (hval 0 22 v0 rfl rfl) h0
  have hb := bounds_u32 hwn
  obtain ⟨l, rfl⟩ := Int.eq_ofNat_of_zero_le hb.1
  refine (law4 l (by omega) W (tab_of_laid hL)).mono fun e W' ⟨he, bel⟩ => ?_
  subst he
  exact ⟨_, rfl, _, _, _, [], _, [], hW', trodAll_mk1 (shut_bool Tryd.underlying4 _), trodAll_mk1 (shut_int Tryd.underlying22 hwn), rfl, bel.frame _, fun h => by cases h⟩

theorem b_over : Rows.FnLabelTextReadsMPLSLabelSaid :=
  OpenClaim.holds_of_wide 4 Tryd.f4 rfl rfl rfl rfl rfl rfl rfl ⟨rfl, rfl, rfl, rfl, rfl⟩ rfl rfl rfl rfl rfl (by kernel_rfl) Tryd.func4 (by kernel_rfl)
    (of_decide_eq_true (by kernel_rfl)) (by unfold Func.isWrapper; first | (rw [if_pos (by decide +kernel)]; kernel_rfl) | (rw [if_neg (by decide +kernel)]; exact ⟨rfl, rfl⟩))
    (fun os started H enc _ => b_lifted os started H enc)

theorem b_card : Rows.FnLabelTextReadsMPLSLabelCardSaid :=
  Claim7.holds_tied_plain_at .later [] [.data, .data, .data] true (true, "c4288e12c4717707e8d2bff7fd27158fd6628ddc73545413f96dd9bc9651ea59") false
    b_over (fun _ h => by cases h) (by kernel_rfl) (fun _ h => by cases h) fnLabelTextReadsMPLSLabel_row_tie rfl ⟨rfl, rfl⟩ (by kernel_rfl) rfl
    (fun f fn hf hfn => by
      obtain rfl : f = 4 := Option.some.inj ((show Tryd.prog.funcNamed Rows.fnLabelTextReadsMPLSLabelRow.func = some 4 by kernel_rfl).symm.trans hf) |>.symm
      obtain rfl : fn = Tryd.f4 := (Option.some.inj (Tryd.func4.symm.trans hfn)).symm
      exact ⟨by kernel_rfl, fun j t ht => by
        rw [Tryd.params4] at ht
        have h3 : t = 22 := by
          rcases j with _ | j
          · simpa using ht.symm
          · simp at ht
        subst h3
        exact (show Tryd.prog.wantsStandIn 22 = false by kernel_rfl)⟩)
    (by kernel_rfl)
end Go.Proofs.Qxb6003939aDoor.Lt
namespace Go.Proofs.Qxb6003939aDoor
/-- THE STATEMENT. -/
theorem labelTextReadsProved : Rows.FnLabelTextReadsMPLSLabelCardSaid := Lt.b_card
end Go.Proofs.Qxb6003939aDoor
