/-
  'Rows.FnFloatCopyIndependentSaid', PROVED: the frame is the guide's template (howto/template/XProofs.lean) at function 3 and two float64 parameters; the walk is YoebtwWalk3's 'main_walk'.
-/
import Derived.Test.YoebtwWalk3
import Derived.ProofKit
namespace Go.Proofs.Yoebtw
open Go.ChangeShapes Go.WideShapes Go.ChangeAt Go.RowKit

theorem own : ownKnob Ebtg.prog.godebug = none := by kernel_rfl

set_option maxRecDepth 100000 in
theorem fnFloatCopyIndependent_lifted (os : Os) (started : os.Started) (H : Type) (enc : TypeId × Value → H) :
    ReturnsInHanded {} Ebtg.checked os 3 .any (Rows.fnFloatCopyIndependentSpec.pre6 enc Ebtg.prog Ebtg.f3 Rows.fnFloatCopyIndependentRow.domain false) (Rows.fnFloatCopyIndependentSpec.post enc Ebtg.prog Ebtg.f3 false true false false) := by
  refine returnsInHanded_of_change (C := Ebtg.checked) own started (by kernel_rfl) Ebtg.func3
    (ChangeSpec.witness6 (enc := enc) (C := Ebtg.checked) false ⟨#[], #[.float .f64 0, .float .f64 0], []⟩ 8 (by kernel_rfl) (by kernel_rfl) (by kernel_rfl) (by kernel_rfl)) ?_
  intro W base args ds gs before hval0 hW hcnd _
  have hval : ∀ (j : Nat) t v, Ebtg.f3.params[j]? = some t → args[j]? = some v → Value.okWide Ebtg.prog W .any base t v := hval0
  have hW' := hW
  obtain ⟨p, q, hA0, hV, rfl, hfz, hnd⟩ := hW
  have hA : DataW.TrodAll enc Ebtg.prog W 0 (fun _ => true) true Ebtg.f3.params.toList args.toList ds p := hA0
  rw [Ebtg.params3] at hA hval
  obtain ⟨v0, v1, d0, d1, p0, p1, rfl, rfl, rfl, h0, h1⟩ := trodAll_two hA
  obtain ⟨rfl, rfl⟩ := trodVars_none hV
  obtain ⟨a, rfl, rfl, rfl, wa⟩ := open_float Ebtg.underlying22 (hval 0 22 v0 rfl rfl) h0
  obtain ⟨b, rfl, rfl, rfl, wb⟩ := open_float Ebtg.underlying22 (hval 1 22 v1 rfl rfl) h1
  clear hA0 hval0
  simp only [List.append_nil] at hW'
  refine (main_walk a b W).mono fun e W' ⟨he, hg⟩ => ?_
  subst he
  exact ⟨_, rfl, post_of_same (pa := []) (pv := []) hW' (fun _ _ _ => trodAll_mk1 (shut_bool Ebtg.underlying4 _)) (fun sp _ => trodAll_mk2 (shut_float Ebtg.underlying22 wa) (shut_float Ebtg.underlying22 wb)) (fun _ _ => rfl) rfl
    (hg.frame _) hg.2.1 (ok_one (by kernel_rfl) rfl (okWide_bool_mk Ebtg.underlying4 _))⟩

/-- THE STATEMENT, as it is given. -/
theorem fnFloatCopyIndependent_holds : Rows.FnFloatCopyIndependentSaid :=
  OpenClaim.holds_of_wide 3 Ebtg.f3 rfl rfl rfl rfl rfl rfl rfl ⟨rfl, rfl, rfl, rfl, rfl⟩ rfl rfl rfl rfl rfl (by kernel_rfl) Ebtg.func3 (by kernel_rfl)
    (of_decide_eq_true (by kernel_rfl)) (by unfold Func.isWrapper; first | (rw [if_pos (by decide +kernel)]; kernel_rfl) | (rw [if_neg (by decide +kernel)]; exact ⟨rfl, rfl⟩))
    (fun os started H enc _ => fnFloatCopyIndependent_lifted os started H enc)

end Go.Proofs.Yoebtw
