/-
  THE CONTRACTS AS THE LAWS MEET THEM: at a later world.
-/
import Derived.Test.Qxb6002688aClone
import Derived.Test.Qxb6002688aBounds
namespace Go.Proofs.Qxb6002688a
open Go.RowKit

/-- A world that parts from w in draws alone. -/
theorem below_self {w w' : World} (h : w'.heap = w.heap) (h1 : w'.os = w.os) (h2 : w'.tape = w.tape) (h3 : w'.output = w.output) (B : Nat) : Below B w w' := ⟨h1, h2, h3, by rw [h]; exact Nat.le_refl _, fun k _ => by rw [h]⟩

theorem flatten_at {N : Nat} {w W : World} {v : Value} {ls : List (List Int)} (h : Pieces N w v ls) (hN : N ≤ w.heap.size) (hb : Below w.heap.size w W) (ht : tot ls ≤ 1048576) (hn : ls.length ≤ 1048576) :
    Calls Try.prog 18 #[v] W fun e w' => Flat ls.flatten W e w' :=
  flatten_any (h.below hb hN) (Nat.le_trans hN hb.size) ht hn
theorem equal_at {N : Nat} {w W : World} {u v : Value} {bs : List Int} (hu : Piece N w u bs) (hv : Piece N w v bs) (hb : Below N w W) (hn : bs.length ≤ 1048576) :
    Calls Try.prog 22 #[u, v] W fun e w' => e = .returned (.bool true) ∧ ∃ n, w' = W.drewN n :=
  equal_any (hu.below hb) (hv.below hb) hn

/-- 'u[m:]'. -/
theorem piece_tail {N : Nat} {w : World} {b o c m : Nat} {p : List Int} (h : Piece N w (.slice (some ⟨b, o, none⟩) p.length c) p) (hm : m ≤ p.length) {ao : Option Addr} {n c' : Nat} (ha : ao = if c = m then some ⟨b, o, none⟩ else some ⟨b, o + m, none⟩) (hn : n = p.length - m) (hc : c' = c - m) : Piece N w (.slice ao n c') (p.drop m) := by
  obtain ⟨ao1, cap, e, h1, _, h3⟩ := h
  injection e with e1 e2 e3
  subst e3
  refine ⟨ao, c', by rw [hn, List.length_drop], by rw [List.length_drop]; omega, (fun e => by rw [ha] at e; split at e <;> cases e), fun hne => ?_⟩
  have hlt : m < p.length := by
    have := List.length_pos_iff.2 hne
    rw [List.length_drop] at this; omega
  obtain ⟨b', o', hb, hlt', hcell⟩ := h3 (by intro e; rw [e] at hlt; simp at hlt)
  rw [← e1] at hb
  injection hb with hb
  injection hb with hb1 hb2
  subst hb1; subst hb2
  refine ⟨b, o + m, by rw [ha, if_neg (by omega)], hlt', fun j x hx => ?_⟩
  rw [show o + m + j = o + (m + j) by omega]
  exact hcell (m + j) x (by rw [List.getElem?_drop] at hx; exact hx)
/-- A piece that is not empty, its address written out. -/
theorem Piece.open {N : Nat} {w : World} {u : Value} {bs : List Int} (h : Piece N w u bs) (hne : 0 < bs.length) : ∃ b o c, u = .slice (some ⟨b, o, none⟩) bs.length c ∧ bs.length ≤ c := by
  obtain ⟨ao, c, rfl, h1, _, h3⟩ := h
  obtain ⟨b, o, rfl, _⟩ := h3 (List.length_pos_iff.1 hne)
  exact ⟨b, o, c, rfl, h1⟩

theorem Pieces.drawn {N : Nat} {w : World} {v : Value} {ls : List (List Int)} (h : Pieces N w v ls) (hN : N ≤ w.heap.size) (n : Nat) : Pieces N (w.drewN n) v ls := h.below (below_drewN (Below.refl _ _) n) hN
/-- What a new reader's pieces are. -/
theorem new_facts (ls : List (List Int)) (T : Nat) (hT : tot ls = T + 1) (hn : ls.length ≤ 1048576) :
    full (dropB 1 (packed ls)) ∧ tot (dropB 1 (packed ls)) = T ∧ (dropB 1 (packed ls)).length ≤ 1048576 ∧ (dropB 1 (packed ls)).flatten = ls.flatten.drop 1 :=
  ⟨drop_full _ 1 (packed_full ls), by rw [drop_tot, packed_tot, hT]; rfl, Nat.le_trans (drop_length _ 1) (Nat.le_trans (packed_length ls) hn), by rw [drop_flatten, packed_flatten]⟩

/-- One call behind another. -/
theorem bnext {w w1 w2 : World} (h : Below w.heap.size w w1) (k : Below w1.heap.size w1 w2) : Below w.heap.size w w2 := h.trans (k.mono h.size)
theorem bdraw {w w1 : World} (h : Below w.heap.size w w1) (n : Nat) : Below w.heap.size w (w1.drewN n) := below_drewN h n

theorem bsame (w : World) (a b B : Nat) : Below B (w.drewN a) (w.drewN b) := ⟨rfl, rfl, rfl, Nat.le_refl _, fun _ _ => rfl⟩

theorem flatten_fr_at {N : Nat} {w W : World} {v : Value} {ls : List (List Int)} (h : Pieces N w v ls) (hN : N ≤ w.heap.size) (hb : Below w.heap.size w W) (ht : tot ls ≤ 1048576) (hn : ls.length ≤ 1048576) :
    Calls Try.prog 18 #[v] W fun e w' => FlatF ls.flatten W e w' :=
  flatten_fresh (h.below hb hN) (Nat.le_trans hN hb.size) ht hn
/-- A piece in a block of its own, behind a reader's skip. -/
theorem Piece.only {N : Nat} {w w' : World} {b o n c r g : Nat} {bs : List Int} (h : Piece N w (.slice (some ⟨b, o, none⟩) n c) bs) (ho : Only r g w w') (h1 : b ≠ r) (h2 : b ≠ g) : Piece N w' (.slice (some ⟨b, o, none⟩) n c) bs := by
  obtain ⟨ao, cap, e, p1, p2, p3⟩ := h
  injection e with e1 e2 e3
  refine ⟨ao, cap, by rw [e1, e2, e3], p1, p2, fun hne => ?_⟩
  obtain ⟨b', o', hb, hlt, hc⟩ := p3 hne
  rw [hb] at e1
  injection e1 with e1
  injection e1 with e1 e1'
  subst e1; subst e1'
  exact ⟨b, o, hb, hlt, fun j x hx => by rw [World.cell?_of_block (a := ⟨b, o + j, none⟩) (ho.block b h1 h2)]; exact hc j x hx⟩

theorem Reader.lt {N : Nat} {w : World} {r g : Nat} {ls : List (List Int)} {off left : Nat} {ids : Bool} (h : Reader N w r g ls off left ids) : r < w.heap.size ∧ g < w.heap.size ∧ N ≤ r ∧ N ≤ g ∧ r ≠ g := by
  obtain ⟨ao, cap, h⟩ := h
  exact ⟨h.lr, h.lg, h.nr, h.ng, h.ne⟩
/-- What a skip leaves of the pieces. -/
theorem skip_facts (ls : List (List Int)) (m L : Nat) (hf : full ls) (hT : tot ls = m + L) (hn : ls.length ≤ 1048576) :
    full (dropB m ls) ∧ tot (dropB m ls) = L ∧ (dropB m ls).length ≤ 1048576 ∧ (dropB m ls).flatten = ls.flatten.drop m :=
  ⟨drop_full _ m hf, by rw [drop_tot, hT]; omega, Nat.le_trans (drop_length _ m) hn, drop_flatten ls m⟩

end Go.Proofs.Qxb6002688a
