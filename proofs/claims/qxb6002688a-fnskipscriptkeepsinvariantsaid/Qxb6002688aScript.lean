/-
  FnSkipScriptKeepsInvariant: THE ROW.
-/
import Derived.Test.Qxb6002688aRows
import Derived.Test.Qxb6002688aLaw10Walk
import Derived.Test.Qxb6002688aOpenMsg
import Derived.ProofKit
namespace Go.Proofs.Qxb6002688a.Sc
open Go.ChangeShapes Go.WideShapes Go.ChangeAt Go.RowKit

theorem cells50 : Try.prog.cellsOf 50 = 1 := by kernel_rfl

theorem open_steps {H : Type} {enc : TypeId × Value → H} {W : World} {r : Reach} {b0 base : Nat} {held : Bool} {v : Value} {d : DataW H} {p : List MemPlace}
    (hv : Value.okWide Try.prog W r b0 48 v) (h : DataW.Trod enc Try.prog W base (fun _ => true) held 48 v d p) : ∃ sa n sc ss, v = .slice sa n sc ∧ Steps W sa n sc ss := by
  obtain ⟨a0, len0, cap0, rfl⟩ := okWide_slice Try.underlying48 hv
  obtain ⟨fuel, hf⟩ := h
  rcases open_ints Try.underlying48 Try.underlying50 cells50 hf with ⟨hcs, _⟩ | ⟨x, l, c, zs, hcs, _, hl, _, hz, _, hcell, hwz⟩
  · simp [Value.cells] at hcs
    obtain ⟨rfl, rfl, rfl⟩ := hcs
    exact ⟨none, 0, 0, [], rfl, rfl, fun _ => ⟨rfl, rfl⟩, by simp, by simp⟩
  · simp [Value.cells] at hcs
    obtain ⟨rfl, rfl, rfl⟩ := hcs
    have hz' : zs.length = cap0 := by simpa using hz
    refine ⟨some x, len0, cap0, zs.take len0, rfl, by rw [List.length_take]; omega, by simp, fun y hy => ?_, fun ad ha j y hy => ?_⟩
    · have := bounds_u16 (hwz y (List.mem_of_mem_take hy))
      omega
    · injection ha with ha
      subst ha
      rw [List.getElem?_take] at hy
      split at hy
      · have hj := (List.getElem?_eq_some_iff.1 hy).1
        rw [hcell j hj]
        simp [List.getD, hy]
      · cases hy

set_option maxRecDepth 100000 in
theorem lifted (os : Os) (started : os.Started) (H : Type) (enc : TypeId × Value → H) :
    ReturnsInHanded {} Try.checked os 10 .any (Rows.fnSkipScriptKeepsInvariantSpec.pre6 enc Try.prog Try.f10 Rows.fnSkipScriptKeepsInvariantRow.domain false) (Rows.fnSkipScriptKeepsInvariantSpec.post enc Try.prog Try.f10 false true false false) := by
  refine returnsInHanded_of_change (C := Try.checked) Try.own_knob started (by kernel_rfl) Try.func10
    (ChangeSpec.witness6 (enc := enc) (C := Try.checked) false ⟨#[], #[.slice none 0 0, .slice none 0 0], []⟩ 8 (by kernel_rfl) (by kernel_rfl) (by kernel_rfl) (by kernel_rfl)) ?_
  intro W base args ds gs before hval0 hW hcnd _
  have hval : ∀ (j : Nat) t v, Try.f10.params[j]? = some t → args[j]? = some v → Value.okWide Try.prog W .any base t v := hval0
  have hW' := hW
  obtain ⟨p, q, hA0, hV, rfl, hfz, hnd⟩ := hW
  have hA : DataW.TrodAll enc Try.prog W 0 (fun _ => true) true Try.f10.params.toList args.toList ds p := hA0
  rw [Try.params10] at hA hval
  obtain ⟨v0, v1, d0, d1, p0, p1, rfl, rfl, rfl, t0, t1⟩ := trodAll_two hA
  obtain ⟨rfl, rfl⟩ := trodVars_none hV
  have lt0 : ∀ x ∈ p0, x.block < W.heap.size := by obtain ⟨m, hm⟩ := t0; exact DataW.trod_lt m _ _ _ hm
  have lt1 : ∀ x ∈ p1, x.block < W.heap.size := by obtain ⟨m, hm⟩ := t1; exact DataW.trod_lt m _ _ _ hm
  obtain ⟨ls, hp⟩ := open_msg (hval 0 33 v0 rfl rfl) t0
  obtain ⟨sa, n, sc, ss, rfl, hst⟩ := open_steps (hval 1 48 v1 rfl rfl) t1
  clear hA0 hval0
  refine (law10_walk hp (Nat.le_refl _) hst).mono fun e W' ⟨he, bel⟩ => ?_
  subst he
  exact ⟨_, rfl, _, _, _, [], _, [], hW', trodAll_mk1 (shut_bool Try.underlying4 _),
    (trodAll_cons_mk (Below.trod Try.laid_out (by kernel_rfl) (of_decide_eq_true (by kernel_rfl)) t0 bel lt0) (trodAll_cons_mk (Below.trod Try.laid_out (by kernel_rfl) (of_decide_eq_true (by kernel_rfl)) t1 bel lt1) trodAll_mk0)), rfl, bel.frame _, fun h => by cases h⟩

theorem over : Rows.fnSkipScriptKeepsInvariantRow.holds Try.pinned (OpenSpec.ofChange Rows.fnSkipScriptKeepsInvariantSpec) :=
  OpenClaim.holds_of_wide 10 Try.f10 rfl rfl rfl rfl rfl rfl rfl ⟨rfl, rfl, rfl, rfl, rfl⟩ rfl rfl rfl rfl rfl (by kernel_rfl) Try.func10 (by kernel_rfl)
    (of_decide_eq_true (by kernel_rfl)) (by unfold Func.isWrapper; first | (rw [if_pos (by decide +kernel)]; kernel_rfl) | (rw [if_neg (by decide +kernel)]; exact ⟨rfl, rfl⟩))
    (fun os started H enc _ => lifted os started H enc)

end Go.Proofs.Qxb6002688a.Sc

namespace Go.Proofs.Qxb6002688a
/-- THE STATEMENT. -/
theorem fnSkipScriptKeepsInvariant_proved : Rows.FnSkipScriptKeepsInvariantSaid := Sc.over
end Go.Proofs.Qxb6002688a
