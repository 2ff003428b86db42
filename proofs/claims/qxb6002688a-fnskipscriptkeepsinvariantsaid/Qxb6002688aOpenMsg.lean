/-
  A SLICE OF SLICES OF BYTES THAT CAME IN, OPENED.
-/
import Derived.Test.Qxb6002688aMsg
import Derived.ProofKit
import Derived.OpenShut
import Derived.Deep.Matrix
namespace Go.Proofs.Qxb6002688a
open Go.ChangeShapes Go.WideShapes Go.ChangeAt Go.RowKit Go.Deep

theorem Try.own_knob : ownKnob Try.prog.godebug = none := by kernel_rfl
theorem Try.laid_out : laidOutB Try.prog = true := by kernel_rfl
theorem cells38 : Try.prog.cellsOf 38 = 1 := by kernel_rfl
theorem cells5 : Try.prog.cellsOf 5 = 1 := by kernel_rfl

theorem addr_plain {w : World} {a : Addr} {v : Value} (h : w.cell? (a.add 0) = some v) : ∃ b o, a = ⟨b, o, none⟩ := by
  obtain ⟨b, o, spot⟩ := a
  have hspot : spot = none := by simpa [Addr.add] using World.cell?_spot h
  exact ⟨b, o, by rw [hspot]⟩

theorem open_msg {H : Type} {enc : TypeId × Value → H} {W : World} {r : Reach} {b0 base : Nat} {held : Bool} {v : Value} {d : DataW H} {p : List MemPlace}
    (hv : Value.okWide Try.prog W r b0 33 v) (h : DataW.Trod enc Try.prog W base (fun _ => true) held 33 v d p) : ∃ ls : List (List Int), Pieces W.heap.size W v ls := by
  obtain ⟨a0, len0, cap0, rfl⟩ := okWide_slice Try.underlying33 hv
  obtain ⟨fuel, hf⟩ := h
  rcases open_int_rows Try.underlying33 Try.underlying38 Try.underlying5 cells38 cells5 hf with ⟨hcs, _⟩ | ⟨a, len, cap, A, L, C, Z, hcs, _, hle, _, _, hrow⟩
  · simp [Value.cells] at hcs
    obtain ⟨rfl, rfl, rfl⟩ := hcs
    exact ⟨[], none, 0, rfl, Nat.le_refl _, fun _ => rfl, fun h => absurd rfl h⟩
  · simp [Value.cells] at hcs
    obtain ⟨rfl, rfl, rfl⟩ := hcs
    refine ⟨(List.range len0).map (fun i => (Z i).take (L i)), some a, cap0, by simp, by simpa using hle, by simp, fun hne => ?_⟩
    have hpos : 0 < len0 := by
      rcases Nat.eq_zero_or_pos len0 with e | e
      · subst e; exact absurd rfl hne
      · exact e
    obtain ⟨b, o, rfl⟩ := addr_plain (hrow 0 (by omega)).1
    refine ⟨b, o, rfl, fun i bs hi => ?_⟩
    rw [List.getElem?_map] at hi
    obtain ⟨j, hj, rfl⟩ := Option.map_eq_some_iff.1 hi
    obtain ⟨hlt, rfl⟩ := List.getElem?_eq_some_iff.1 hj
    simp only [List.getElem_range]
    have hi' : i < len0 := by simpa using hlt
    obtain ⟨h1, h2, h3, h4, h5, h6, h7⟩ := hrow i (by omega)
    have hl : ((Z i).take (L i)).length = L i := by rw [List.length_take]; omega
    refine ⟨.slice (A i) (L i) (C i), by rw [← Addr.add_mid]; exact h1, A i, C i, by rw [hl], by rw [hl]; exact h2, h6, fun hbe => ?_⟩
    have hLpos : 0 < L i := by rw [← hl]; exact List.length_pos_iff.2 hbe
    cases hA : A i with
    | none => have := h6 hA; omega
    | some a' =>
      obtain ⟨_, hc⟩ := h7 a' hA
      obtain ⟨b', o', rfl⟩ := addr_plain (hc 0 (by omega))
      refine ⟨b', o', rfl, ?_, fun j x hx => ?_⟩
      · have := World.block_lt_of_cell? W _ (hc 0 (by omega))
        simpa [Addr.add] using this
      · rw [List.getElem?_take] at hx
        split at hx
        · rw [← Addr.add_mid, hc j (by omega)]
          simp [List.getD, hx]
        · cases hx

end Go.Proofs.Qxb6002688a
