/-
  THE LAW FnSkipScriptKeepsInvariant, WALKED.
-/
import Derived.Test.Qxb6002688aLawKit
namespace Go.Proofs.Qxb6002688a
open Go.RowKit

theorem info50 : (Try.prog.info? 50).map (fun i => (i.zero, i.size, i.bytes)) = some (some (.int .u16 0), 1, 2) := by kernel_rfl

/-- The steps lie behind the slice. -/
def Steps (w : World) (sa : Option Addr) (n sc : Nat) (ss : List Int) : Prop :=
  ss.length = n ∧ (sa = none → n = 0 ∧ sc = 0) ∧ (∀ x ∈ ss, 0 ≤ x ∧ x ≤ 65535) ∧ ∀ ad, sa = some ad → ∀ (j : Nat) x, ss[j]? = some x → w.cell? (ad.add j) = some (.int .u16 x)
theorem Steps.below {w w' : World} {sa : Option Addr} {n sc : Nat} {ss : List Int} (h : Steps w sa n sc ss) (hb : Below w.heap.size w w') : Steps w' sa n sc ss := by
  obtain ⟨h1, h2, h3, h4⟩ := h
  refine ⟨h1, h2, h3, fun ad ha j x hx => ?_⟩
  have hc := h4 ad ha j x hx
  rw [hb.cell (World.block_lt_of_cell? w _ hc)]; exact hc

/-- The steps' copy: where it lies. -/
def Copied (B : Nat) (w : World) (v : Value) (ss : List Int) : Prop :=
  ∃ ao c, v = .slice ao ss.length c ∧ (ss ≠ [] → ∃ g, ao = some ⟨g, 0, none⟩ ∧ g < B ∧ ∀ (j : Nat) x, ss[j]? = some x → w.cell? ⟨g, j, none⟩ = some (.int .u16 x))
theorem Copied.below {B : Nat} {w w' : World} {v : Value} {ss : List Int} (h : Copied B w v ss) (hb : Below B w w') : Copied B w' v ss := by
  obtain ⟨ao, c, rfl, h1⟩ := h
  refine ⟨ao, c, rfl, fun hne => ?_⟩
  obtain ⟨g, rfl, hlt, hc⟩ := h1 hne
  exact ⟨g, rfl, hlt, fun j x hx => by rw [hb.cell (p := ⟨g, j, none⟩) hlt]; exact hc j x hx⟩
theorem Copied.mono {B B' : Nat} {w : World} {v : Value} {ss : List Int} (h : Copied B w v ss) (hB : B ≤ B') : Copied B' w v ss := by
  obtain ⟨ao, c, rfl, h1⟩ := h
  refine ⟨ao, c, rfl, fun hne => ?_⟩
  obtain ⟨g, rfl, hlt, hc⟩ := h1 hne
  exact ⟨g, rfl, by omega, hc⟩
theorem copied_own {base : Nat} {w : World} {v : Value} {ss : List Int} {n : Nat} (hn : n = ss.length) (h : w.ownsRow base 50 1 v n (ss.map (Value.int .u16))) : Copied w.heap.size w v ss := by
  subst hn
  rcases h.2 with ⟨rfl, h0⟩ | ⟨g, cap, cur, rfl, _, hh, _, _, _, htake⟩
  · obtain rfl : ss = [] := List.eq_nil_of_length_eq_zero h0
    exact ⟨none, 0, rfl, fun h => absurd rfl h⟩
  · refine ⟨_, cap, rfl, fun _ => ⟨g, rfl, (Array.getElem?_eq_some_iff.1 hh).1, fun j x hx => ?_⟩⟩
    rw [cell_of_row _ _ _ _ _ _ hh]
    have hj := (List.getElem?_eq_some_iff.1 hx).1
    have ht := congrArg (fun l : List Value => l[j]?) htake
    simp only [List.getElem?_take, List.getElem?_map, hx] at ht
    rw [if_pos (by omega)] at ht
    simpa using ht
theorem steps_news {w : World} {ad : Addr} {n sc : Nat} {ss : List Int} (h : Steps w (some ad) n sc ss) : ∀ j u, (ss.map (Value.int .u16))[j]? = some u → w.cell? (ad.add j) = some u := by
  intro j u hu
  rw [List.getElem?_map] at hu
  obtain ⟨x, hx, rfl⟩ := Option.map_eq_some_iff.1 hu
  exact h.2.2.2 ad rfl j x hx
theorem u16_one (ss : List Int) : ∀ u ∈ ss.map (Value.int .u16), u.oneCell' = true := by
  intro v hv
  obtain ⟨x, _, rfl⟩ := List.mem_map.1 hv
  rfl

/-- 'append([]uint16(nil), steps...)': one law for a nil slice and any other. -/
theorem wpList_append_steps {ops : Array Oper} {rest : List Oper} {o : Oper} {a : Act} {w : World} {Q : Exit → Act → World → Prop} (hgd : o.guard = none) (x : Operand)
    (ho : o.op = .call { callee := .builtin .append, args := #[.const (.slice none 0 0), x], argTypes := #[48, 48] }) (sa : Option Addr) (n sc : Nat) (ss : List Int) (hx : a.eval x = .slice sa n sc) (hst : Steps w sa n sc ss) (hn : n ≤ 64)
    (h : ∀ (ao : Option Addr) (c : Nat) (w' : World), Copied w'.heap.size w' (.slice ao n c) ss → Below w.heap.size w w' → wpList Try.prog ops Q rest (a.put o.dst (.slice ao n c)) w') : wpList Try.prog ops Q (o :: rest) a w := by
  obtain ⟨i0, hi, hz0, hz1, hz2⟩ := info_parts info50
  have hl := hst.1
  have go : ∀ v' w', w'.ownsRow w.heap.size 50 1 v' n (ss.map (Value.int .u16)) → Below w.heap.size w w' → wpList Try.prog ops Q rest (a.put o.dst v') w' := by
    intro v' w' hown hb
    have hc := copied_own hl.symm hown
    obtain ⟨ao, c, rfl, h2⟩ := hc
    rw [hl]
    exact h ao c w' (by rw [← hl]; exact ⟨ao, c, rfl, h2⟩) hb
  cases sa with
  | none =>
    obtain ⟨rfl, rfl⟩ := hst.2.1 rfl
    obtain rfl : ss = [] := List.eq_nil_of_length_eq_zero hl
    exact wpList_append_own_none hgd _ x 48 ho w.heap.size 50 i0 1 Try.underlying48 hi (.slice none 0 0) 0 [] rfl (World.ownsRow_nil _ _ _ _) hx (go _ _ (World.ownsRow_nil _ _ _ _) (Below.refl _ _))
  | some ad =>
    refine wpList_append_own _ hgd _ x 48 ho w.heap.size 50 i0 (.int .u16 0) 1 2 Try.underlying48 hi hz0 hz1 hz2 rfl (by decide) (.slice none 0 0) 0 [] rfl (World.ownsRow_nil _ _ _ _) ad n sc (ss.map (Value.int .u16)) hx (by simp [hl]) (steps_news hst) (u16_one ss) (by unfold maxLen; omega) (by omega) (Nat.le_refl _) ?_
    intro v' w' hown hg _
    rw [Nat.zero_add, List.nil_append] at hown
    exact go v' w' hown ((Below.refl _ _).grown hg (Nat.le_refl _) (by simp [Value.ownBlock]))

/-- What holds at the head of the script's loop. -/
def SI (N1 NR : Nat) (w4 : World) (r g : Nat) (fl : List Int) (wr : World) : Prop :=
  ∃ ls off L, Reader N1 wr r g ls off L false ∧ full ls ∧ tot ls = L ∧ ls.length ≤ 1048576 ∧ off + L = fl.length ∧ ls.flatten = fl.drop off ∧ Below NR w4 wr

theorem SI.start {N1 : Nat} {w3 w4 : World} {r g : Nat} {ls : List (List Int)} {TT : Nat} (hr : Reader N1 w4 r g (dropB 1 (packed ls)) 1 (TT - 1) false) (hb : Below w3.heap.size w3 w4) (ht : tot ls = TT) (h1 : 1 ≤ TT) (hn : ls.length ≤ 1048576) :
    SI N1 w3.heap.size w3 r g ls.flatten w4 := by
  obtain ⟨h2, h3, h4, h5⟩ := new_facts ls (TT - 1) (by omega) hn
  exact ⟨_, 1, TT - 1, hr, h2, h3, h4, by rw [← tot_flatten, ht]; omega, h5, hb⟩

end Go.Proofs.Qxb6002688a
