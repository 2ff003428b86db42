/-
  FnSkipComposes: THE ROW.
-/
import Derived.Test.Qxb6002688aRows
import Derived.Test.Qxb6002688aLaw9Walk
import Derived.Test.Qxb6002688aOpenMsg
import Derived.ProofKit
namespace Go.Proofs.Qxb6002688a.Co
open Go.ChangeShapes Go.WideShapes Go.ChangeAt Go.RowKit

set_option maxRecDepth 100000 in
theorem lifted (os : Os) (started : os.Started) (H : Type) (enc : TypeId × Value → H) :
    ReturnsInHanded {} Try.checked os 9 .any (Rows.fnSkipComposesSpec.pre6 enc Try.prog Try.f9 Rows.fnSkipComposesRow.domain false) (Rows.fnSkipComposesSpec.post enc Try.prog Try.f9 false true false false) := by
  refine returnsInHanded_of_change (C := Try.checked) Try.own_knob started (by kernel_rfl) Try.func9
    (ChangeSpec.witness6 (enc := enc) (C := Try.checked) false ⟨#[], #[.slice none 0 0, .int .i64 0, .int .i64 0], []⟩ 8 (by kernel_rfl) (by kernel_rfl) (by kernel_rfl) (by kernel_rfl)) ?_
  intro W base args ds gs before hval0 hW hcnd _
  have hval : ∀ (j : Nat) t v, Try.f9.params[j]? = some t → args[j]? = some v → Value.okWide Try.prog W .any base t v := hval0
  have hW' := hW
  obtain ⟨p, q, hA0, hV, rfl, hfz, hnd⟩ := hW
  have hA : DataW.TrodAll enc Try.prog W 0 (fun _ => true) true Try.f9.params.toList args.toList ds p := hA0
  rw [Try.params9] at hA hval
  obtain ⟨v0, v1, v2, d0, d1, d2, p0, p1, p2, rfl, rfl, rfl, t0, t1, t2⟩ := trodAll_three hA
  obtain ⟨rfl, rfl⟩ := trodVars_none hV
  obtain ⟨q1, rfl, rfl, rfl, wq⟩ := open_int Try.underlying3 (hval 1 3 v1 rfl rfl) t1
  obtain ⟨q2, rfl, rfl, rfl, wq2⟩ := open_int Try.underlying3 (hval 2 3 v2 rfl rfl) t2
  have lt0 : ∀ x ∈ p0, x.block < W.heap.size := by obtain ⟨m, hm⟩ := t0; exact DataW.trod_lt m _ _ _ hm
  obtain ⟨ls, hp⟩ := open_msg (hval 0 33 v0 rfl rfl) t0
  clear hA0 hval0
  refine (law9_walk hp (Nat.le_refl _) q1 q2).mono fun e W' ⟨he, bel⟩ => ?_
  subst he
  exact ⟨_, rfl, _, _, _, [], _, [], hW', trodAll_mk1 (shut_bool Try.underlying4 _),
    (trodAll_cons_mk (Below.trod Try.laid_out (by kernel_rfl) (of_decide_eq_true (by kernel_rfl)) t0 bel lt0) (trodAll_cons_mk (shut_int Try.underlying3 wq) (trodAll_cons_mk (shut_int Try.underlying3 wq2) trodAll_mk0))), rfl, bel.frame _, fun h => by cases h⟩

theorem over : Rows.fnSkipComposesRow.holds Try.pinned (OpenSpec.ofChange Rows.fnSkipComposesSpec) :=
  OpenClaim.holds_of_wide 9 Try.f9 rfl rfl rfl rfl rfl rfl rfl ⟨rfl, rfl, rfl, rfl, rfl⟩ rfl rfl rfl rfl rfl (by kernel_rfl) Try.func9 (by kernel_rfl)
    (of_decide_eq_true (by kernel_rfl)) (by unfold Func.isWrapper; first | (rw [if_pos (by decide +kernel)]; kernel_rfl) | (rw [if_neg (by decide +kernel)]; exact ⟨rfl, rfl⟩))
    (fun os started H enc _ => lifted os started H enc)

end Go.Proofs.Qxb6002688a.Co

namespace Go.Proofs.Qxb6002688a
/-- THE STATEMENT. -/
theorem fnSkipComposes_proved : Rows.FnSkipComposesSaid := Co.over
end Go.Proofs.Qxb6002688a
