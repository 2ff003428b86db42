/-
  AN ARRAY OF 32 BYTES THAT CAME IN, OPENED.
-/
import Derived.Test.Qxb6002688aOps
import Derived.ProofKit
import Derived.OpenShut
namespace Go.Proofs.Qxb6002688a
open Go.ChangeShapes Go.WideShapes Go.ChangeAt Go.RowKit

theorem Try.own : ownKnob Try.prog.godebug = none := by kernel_rfl
theorem Try.laidOut : laidOutB Try.prog = true := by kernel_rfl
theorem Try.cells23 : Try.prog.cellsOf 23 = 32 := by kernel_rfl
theorem Try.cells5 : Try.prog.cellsOf 5 = 1 := by kernel_rfl

theorem open_arr {H : Type} {enc : TypeId × Value → H} {W : World} {r : Reach} {b0 base : Nat} {spare : Nat → Bool} {held : Bool} {v : Value} {d : DataW H} {p : List MemPlace}
    (hv : Value.okWide Try.prog W r b0 23 v) (h : DataW.Trod enc Try.prog W base spare held 23 v d p) :
    ∃ l : List Int, v = .agg (bytes l) ∧ l.length = 32 ∧ ∀ x ∈ l, 0 ≤ x := by
  unfold Value.okWide at hv
  rw [Try.underlying23] at hv
  obtain ⟨cs, rfl, hsz, _⟩ := hv
  rw [Try.cells23] at hsz
  obtain ⟨fuel, hf⟩ := h
  obtain ⟨xs, m, _, _, _, hxl, hat⟩ := DataW.trod_array Try.underlying23 hf
  rw [Try.cells5] at hat
  have hcell : ∀ i, i < 32 → ∃ n, cs[i]? = some (.int .u8 n) ∧ 0 ≤ n := by
    intro i hi
    have h1 := hat i hi
    rw [List.getElem?_eq_getElem (show i < xs.length by omega)] at h1
    obtain ⟨n, hn, _, hw⟩ := DataW.trod_int Try.underlying5 h1
    refine ⟨n, ?_, (bounds_u8 hw).1⟩
    have h2 := congrArg (fun l : List Value => l[0]?) hn
    simpa [Value.cells, List.getElem?_take, List.getElem?_drop] using h2
  refine ⟨(List.range 32).map (fun i => intOf (cs[i]?.getD undef)), ?_, by simp, ?_⟩
  · congr 1
    apply Array.ext_getElem?
    intro i
    rw [bytes_at]
    by_cases hi : i < 32
    · obtain ⟨n, hn, _⟩ := hcell i hi
      simp [List.getElem?_range hi, hn, intOf]
    · rw [Array.getElem?_eq_none (by omega), List.getElem?_eq_none (by simp; omega)]; rfl
  · intro x hx
    obtain ⟨i, hi, rfl⟩ := List.mem_map.1 hx
    obtain ⟨n, hn, h0⟩ := hcell i (by simpa using hi)
    simpa [hn, intOf] using h0

end Go.Proofs.Qxb6002688a
