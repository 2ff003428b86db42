/-
  FnBoundBetweenIsShortestSeparator: THE ROW.
-/
import Derived.Test.Qxb6002688aRows
import Derived.Test.Qxb6002688aShortWalk
import Derived.Test.Qxb6002688aOpenArr
import Derived.ProofKit
namespace Go.Proofs.Qxb6002688a.Sho
open Go.ChangeShapes Go.WideShapes Go.ChangeAt Go.RowKit

theorem walk (ta tb : Int) (la lb : List Int) (h1 : la.length = 32) (h2 : lb.length = 32) (h0 : ∀ x ∈ la, 0 ≤ x) (w : World) :
    Calls Try.prog 3 #[.int .u64 ta, .agg (bytes la), .int .u64 tb, .agg (bytes lb)] w fun e w' => e = .returned (.bool true) ∧ Below w.heap.size w w' := by
  by_cases hlt : cmpK ta la tb lb < 0
  · have hp := bp_le ta tb la lb h1 h2 hlt
    have hl := pad_length lb _ h2 hp
    exact sho_lt ta tb la lb h1 h2 (bp ta la tb lb) (pad 32 lb (bp ta la tb lb)) hl _ hlt
      (cmp_any ta tb la lb h1 h2) (zb_any ta tb la lb h1 h2 hlt) (short_any ta tb la lb h1 h2 _ hp (short_lo ta tb la lb h1 h2 h0 hlt) (short_hi ta tb la lb h1 h2 hlt)) w
  · exact sho_ge ta tb la lb h1 h2 hlt w

set_option maxRecDepth 100000 in
theorem lifted (os : Os) (started : os.Started) (H : Type) (enc : TypeId × Value → H) :
    ReturnsInHanded {} Try.checked os 3 .any (Rows.fnBoundBetweenIsShortestSeparatorSpec.pre6 enc Try.prog Try.f3 Rows.fnBoundBetweenIsShortestSeparatorRow.domain false) (Rows.fnBoundBetweenIsShortestSeparatorSpec.post enc Try.prog Try.f3 false true false false) := by
  refine returnsInHanded_of_change (C := Try.checked) Try.own started (by kernel_rfl) Try.func3
    (ChangeSpec.witness6 (enc := enc) (C := Try.checked) false ⟨#[], #[.int .u64 0, .agg (bytes zeros), .int .u64 0, .agg (bytes zeros)], []⟩ 8 (by kernel_rfl) (by kernel_rfl) (by kernel_rfl) (by kernel_rfl)) ?_
  intro W base args ds gs before hval0 hW hcnd _
  have hval : ∀ (j : Nat) t v, Try.f3.params[j]? = some t → args[j]? = some v → Value.okWide Try.prog W .any base t v := hval0
  have hW' := hW
  obtain ⟨p, q, hA0, hV, rfl, hfz, hnd⟩ := hW
  have hA : DataW.TrodAll enc Try.prog W 0 (fun _ => true) true Try.f3.params.toList args.toList ds p := hA0
  rw [Try.params3] at hA hval
  obtain ⟨v0, v1, v2, v3, d0, d1, d2, d3, p0, p1, p2, p3, rfl, rfl, rfl, t0, t1, t2, t3⟩ := trodAll_four hA
  obtain ⟨rfl, rfl⟩ := trodVars_none hV
  obtain ⟨a0, rfl, rfl, rfl, w0⟩ := open_int Try.underlying22 (hval 0 22 v0 rfl rfl) t0
  obtain ⟨a2, rfl, rfl, rfl, w2⟩ := open_int Try.underlying22 (hval 2 22 v2 rfl rfl) t2
  have lt1 : ∀ x ∈ p1, x.block < W.heap.size := by obtain ⟨m, hm⟩ := t1; exact DataW.trod_lt m _ _ _ hm
  have lt3 : ∀ x ∈ p3, x.block < W.heap.size := by obtain ⟨m, hm⟩ := t3; exact DataW.trod_lt m _ _ _ hm
  obtain ⟨l1, rfl, hl1, hn1⟩ := open_arr (hval 1 23 v1 rfl rfl) t1
  obtain ⟨l3, rfl, hl3, hn3⟩ := open_arr (hval 3 23 v3 rfl rfl) t3
  clear hA0 hval0
  refine (walk a0 a2 l1 l3 hl1 hl3 hn1 W).mono fun e W' ⟨he, bel⟩ => ?_
  subst he
  exact ⟨_, rfl, _, _, _, [], _, [], hW', trodAll_mk1 (shut_bool Try.underlying4 _),
    (trodAll_cons_mk (shut_int Try.underlying22 w0) (trodAll_cons_mk (Below.trod Try.laidOut (by kernel_rfl) (of_decide_eq_true (by kernel_rfl)) t1 bel lt1) (trodAll_cons_mk (shut_int Try.underlying22 w2) (trodAll_cons_mk (Below.trod Try.laidOut (by kernel_rfl) (of_decide_eq_true (by kernel_rfl)) t3 bel lt3) trodAll_mk0)))), rfl, bel.frame _, fun h => by cases h⟩

theorem over : Rows.fnBoundBetweenIsShortestSeparatorRow.holds Try.pinned (OpenSpec.ofChange Rows.fnBoundBetweenIsShortestSeparatorSpec) :=
  OpenClaim.holds_of_wide 3 Try.f3 rfl rfl rfl rfl rfl rfl rfl ⟨rfl, rfl, rfl, rfl, rfl⟩ rfl rfl rfl rfl rfl (by kernel_rfl) Try.func3 (by kernel_rfl)
    (of_decide_eq_true (by kernel_rfl)) (by unfold Func.isWrapper; first | (rw [if_pos (by decide +kernel)]; kernel_rfl) | (rw [if_neg (by decide +kernel)]; exact ⟨rfl, rfl⟩))
    (fun os started H enc _ => lifted os started H enc)

end Go.Proofs.Qxb6002688a.Sho

namespace Go.Proofs.Qxb6002688a
/-- THE STATEMENT. -/
theorem fnBoundBetweenIsShortestSeparator_proved : Rows.FnBoundBetweenIsShortestSeparatorSaid := Sho.over
end Go.Proofs.Qxb6002688a
