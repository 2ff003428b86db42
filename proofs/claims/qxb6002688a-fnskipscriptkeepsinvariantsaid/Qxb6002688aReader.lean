/-
  THE READER IN MEMORY; skip, ReaderState AND ZZSkip, WALKED.
-/
import Derived.Test.Qxb6002688aReads
import Derived.Deep.RegionHeld3
namespace Go.Proofs.Qxb6002688a
open Go.RowKit

/-- Nothing but the blocks r and g has turned; none has come or gone. -/
structure Only (r g : Nat) (w w' : World) : Prop where
  os : w'.os = w.os
  tape : w'.tape = w.tape
  output : w'.output = w.output
  size : w'.heap.size = w.heap.size
  block : ∀ k, k ≠ r → k ≠ g → w'.heap[k]? = w.heap[k]?

theorem Only.refl (r g : Nat) (w : World) : Only r g w w := ⟨rfl, rfl, rfl, rfl, fun _ _ _ => rfl⟩
theorem Only.trans {r g : Nat} {a b c : World} (h : Only r g a b) (k : Only r g b c) : Only r g a c :=
  ⟨k.os.trans h.os, k.tape.trans h.tape, k.output.trans h.output, k.size.trans h.size, fun i h1 h2 => (k.block i h1 h2).trans (h.block i h1 h2)⟩
theorem Only.setR {r g : Nat} {a w : World} (h : Only r g a w) (o : Nat) (u : Value) : Only r g a (w.setCell ⟨r, o, none⟩ u) :=
  h.trans ⟨rfl, rfl, rfl, by simp [World.setCell], fun k h1 _ => Below.heap_setCell _ _ _ _ h1⟩
theorem Only.setG {r g : Nat} {a w : World} (h : Only r g a w) (o : Nat) (u : Value) : Only r g a (w.setCell ⟨g, o, none⟩ u) :=
  h.trans ⟨rfl, rfl, rfl, by simp [World.setCell], fun k _ h2 => Below.heap_setCell _ _ _ _ h2⟩
theorem Only.drew {r g : Nat} {a w : World} (h : Only r g a w) : Only r g a w.drew := ⟨h.os, h.tape, h.output, h.size, h.block⟩
theorem Only.drewN {r g : Nat} {a w : World} (h : Only r g a w) (n : Nat) : Only r g a (w.drewN n) := ⟨h.os, h.tape, h.output, h.size, h.block⟩
theorem Only.below {r g B : Nat} {w w' : World} (h : Only r g w w') (hr : B ≤ r) (hg : B ≤ g) : Below B w w' :=
  ⟨h.os, h.tape, h.output, Nat.le_of_eq h.size.symm, fun k hk => h.block k (by omega) (by omega)⟩

/-- The reader's cells, and what its row holds. -/
structure RD (N : Nat) (w : World) (r g : Nat) (ao : Option Addr) (cap : Nat) (ls : List (List Int)) (off left : Nat) (ids : Bool) : Prop where
  c0 : w.cell? ⟨r, 0, none⟩ = some (.slice ao ls.length cap)
  c1 : w.cell? ⟨r, 1, none⟩ = some (.int .i64 off)
  c2 : w.cell? ⟨r, 2, none⟩ = some (.int .i64 left)
  c3 : w.cell? ⟨r, 3, none⟩ = some (.bool ids)
  f0 : w.frozen? ⟨r, 0, none⟩ = false
  f1 : w.frozen? ⟨r, 1, none⟩ = false
  f2 : w.frozen? ⟨r, 2, none⟩ = false
  le : ls.length ≤ cap
  nil : ao = none → cap = 0
  row : ls ≠ [] → ∃ o, ao = some ⟨g, o, none⟩ ∧ ∀ (i : Nat) bs, ls[i]? = some bs → ∃ u, w.cell? ⟨g, o + i, none⟩ = some u ∧ Piece N w u bs ∧ w.frozen? ⟨g, o + i, none⟩ = false
  nr : N ≤ r
  ng : N ≤ g
  ne : r ≠ g
  lg : g < w.heap.size

/-- A reader at r, its row in block g, its pieces below N. -/
def Reader (N : Nat) (w : World) (r g : Nat) (ls : List (List Int)) (off left : Nat) (ids : Bool) : Prop := ∃ ao cap, RD N w r g ao cap ls off left ids

theorem RD.lr {N : Nat} {w : World} {r g : Nat} {ao : Option Addr} {cap : Nat} {ls : List (List Int)} {off left : Nat} {ids : Bool} (h : RD N w r g ao cap ls off left ids) : r < w.heap.size :=
  World.block_lt_of_cell? w ⟨r, 0, none⟩ h.c0

theorem RD.pieces {N : Nat} {w : World} {r g : Nat} {ao : Option Addr} {cap : Nat} {ls : List (List Int)} {off left : Nat} {ids : Bool} (h : RD N w r g ao cap ls off left ids) : Pieces N w (.slice ao ls.length cap) ls :=
  ⟨ao, cap, rfl, h.le, h.nil, fun hne => by
    obtain ⟨o, rfl, hc⟩ := h.row hne
    exact ⟨g, o, rfl, fun i bs hi => by obtain ⟨u, h1, h2, _⟩ := hc i bs hi; exact ⟨u, h1, h2⟩⟩⟩

/-- A reader in a world in which its two blocks and all blocks below N are as they were. -/
theorem RD.move {N : Nat} {w w' : World} {r g : Nat} {ao : Option Addr} {cap : Nat} {ls : List (List Int)} {off left : Nat} {ids : Bool} (h : RD N w r g ao cap ls off left ids)
    (hr : w'.heap[r]? = w.heap[r]?) (hg : w'.heap[g]? = w.heap[g]?) (hb : Below N w w') (hs : w.heap.size ≤ w'.heap.size) : RD N w' r g ao cap ls off left ids where
  c0 := by rw [World.cell?_of_block (a := ⟨r, 0, none⟩) hr]; exact h.c0
  c1 := by rw [World.cell?_of_block (a := ⟨r, 1, none⟩) hr]; exact h.c1
  c2 := by rw [World.cell?_of_block (a := ⟨r, 2, none⟩) hr]; exact h.c2
  c3 := by rw [World.cell?_of_block (a := ⟨r, 3, none⟩) hr]; exact h.c3
  f0 := by rw [World.frozen?_of_block (a := ⟨r, 0, none⟩) hr]; exact h.f0
  f1 := by rw [World.frozen?_of_block (a := ⟨r, 1, none⟩) hr]; exact h.f1
  f2 := by rw [World.frozen?_of_block (a := ⟨r, 2, none⟩) hr]; exact h.f2
  le := h.le
  nil := h.nil
  row := fun hne => by
    obtain ⟨o, rfl, hc⟩ := h.row hne
    refine ⟨o, rfl, fun i bs hi => ?_⟩
    obtain ⟨u, h1, h2, h3⟩ := hc i bs hi
    exact ⟨u, by rw [World.cell?_of_block (a := ⟨g, o + i, none⟩) hg]; exact h1, h2.below hb, by rw [World.frozen?_of_block (a := ⟨g, o + i, none⟩) hg]; exact h3⟩
  nr := h.nr
  ng := h.ng
  ne := h.ne
  lg := Nat.lt_of_lt_of_le h.lg hs

theorem RD.below {N : Nat} {w w' : World} {r g : Nat} {ao : Option Addr} {cap : Nat} {ls : List (List Int)} {off left : Nat} {ids : Bool} (h : RD N w r g ao cap ls off left ids) (hb : Below w.heap.size w w') : RD N w' r g ao cap ls off left ids :=
  h.move (hb.block r h.lr) (hb.block g h.lg) (hb.mono (by have := h.lr; have := h.nr; omega)) hb.size
theorem Reader.below {N : Nat} {w w' : World} {r g : Nat} {ls : List (List Int)} {off left : Nat} {ids : Bool} (h : Reader N w r g ls off left ids) (hb : Below w.heap.size w w') : Reader N w' r g ls off left ids := by
  obtain ⟨ao, cap, h⟩ := h
  exact ⟨ao, cap, h.below hb⟩
/-- Another reader's skip leaves this one alone. -/
theorem Reader.only {N : Nat} {w w' : World} {r g r' g' : Nat} {ls : List (List Int)} {off left : Nat} {ids : Bool} (h : Reader N w r g ls off left ids) (ho : Only r' g' w w')
    (h1 : r ≠ r') (h2 : r ≠ g') (h3 : g ≠ r') (h4 : g ≠ g') (hr : N ≤ r') (hg : N ≤ g') : Reader N w' r g ls off left ids := by
  obtain ⟨ao, cap, h⟩ := h
  exact ⟨ao, cap, h.move (ho.block r h1 h2) (ho.block g h3 h4) (ho.below hr hg) (Nat.le_of_eq ho.size.symm)⟩

/-- What ZZReaderState answers. -/
def State (N : Nat) (ls : List (List Int)) (off left : Nat) (ids : Bool) (w : World) (e : Ending) (w' : World) : Prop :=
  ∃ v, e = .returned (.tuple #[v, .int .i64 off, .int .i64 left, .bool ids]) ∧ Pieces N w v ls ∧ ∃ n, w' = w.drewN n

set_option maxHeartbeats 400000 in
theorem state_any {N : Nat} {w : World} {r g : Nat} {ls : List (List Int)} {off left : Nat} {ids : Bool} (h : Reader N w r g ls off left ids) :
    Calls Try.prog 20 #[.pointer (some ⟨r, 0, none⟩)] w fun e w' => State N ls off left ids w e w' := by
  obtain ⟨ao, cap, h⟩ := h
  have H := hid h
  have c0 := h.c0; have c1 := h.c1; have c2 := h.c2; have c3 := h.c3
  clear h
  go_enter Try.func20, Try.ntmps20
  go_wp2_with fail
  go_quiet (fail)
  go_wp2_with fail
  refine bodyPost_ret (v := .tuple #[.slice ao ls.length cap, .int .i64 off, .int .i64 left, .bool ids]) (by simp [results, Try.results20, go_sem]) rfl ?_
  exact ⟨_, rfl, H.out.pieces, _, rfl⟩

theorem cell_other {w : World} {b o b' o' : Nat} {u v : Value} (h : w.cell? ⟨b, o, none⟩ = some v) (hne : ¬ (b' = b ∧ o' = o)) : (w.setCell ⟨b', o', none⟩ u).cell? ⟨b, o, none⟩ = some v := by
  rw [World.cell?_setCell_other _ _ _ _ (by intro e; injection e with e1 e2; exact hne ⟨e1, e2⟩)]; exact h
theorem piece_set {N : Nat} {w : World} {u : Value} {bs : List Int} (h : Piece N w u bs) {b o : Nat} (hb : N ≤ b) (x : Value) : Piece N (w.setCell ⟨b, o, none⟩ x) u bs :=
  h.below ((Below.refl _ _).setCell (p := ⟨b, o, none⟩) hb x)

/-- The two counts are stored. -/
theorem RD.counts {N : Nat} {w : World} {r g : Nat} {ao : Option Addr} {cap : Nat} {ls : List (List Int)} {off left : Nat} {ids : Bool} (h : RD N w r g ao cap ls off left ids) {off' left' : Nat} {x y : Int} (hx : x = off') (hy : y = left') :
    RD N ((w.setCell ⟨r, 1, none⟩ (.int .i64 x)).setCell ⟨r, 2, none⟩ (.int .i64 y)) r g ao cap ls off' left' ids where
  c0 := cell_other (cell_other h.c0 (by simp)) (by simp)
  c1 := cell_other (by rw [World.cell?_setCell_same _ _ _ h.c1, hx]) (by simp)
  c2 := by rw [World.cell?_setCell_same _ _ _ (cell_other h.c2 (by simp)), hy]
  c3 := cell_other (cell_other h.c3 (by simp)) (by simp)
  f0 := by rw [World.frozen?_setCell, World.frozen?_setCell]; exact h.f0
  f1 := by rw [World.frozen?_setCell, World.frozen?_setCell]; exact h.f1
  f2 := by rw [World.frozen?_setCell, World.frozen?_setCell]; exact h.f2
  le := h.le
  nil := h.nil
  row := fun hne => by
    obtain ⟨o, rfl, hc⟩ := h.row hne
    refine ⟨o, rfl, fun i bs hi => ?_⟩
    obtain ⟨u, h1, h2, h3⟩ := hc i bs hi
    exact ⟨u, cell_other (cell_other h1 (fun e => h.ne e.1)) (fun e => h.ne e.1), piece_set (piece_set h2 h.nr _) h.nr _, by rw [World.frozen?_setCell, World.frozen?_setCell]; exact h3⟩
  nr := h.nr
  ng := h.ng
  ne := h.ne
  lg := by have := h.lg; simpa [World.setCell] using this

/-- The first piece is cut. -/
theorem RD.cut {N : Nat} {w : World} {r g : Nat} {o cap : Nat} {p : List Int} {ps : List (List Int)} {off left : Nat} {ids : Bool} (h : RD N w r g (some ⟨g, o, none⟩) cap (p :: ps) off left ids) {u : Value} {q : List Int} (hq : Piece N w u q) :
    RD N (w.setCell ⟨g, o, none⟩ u) r g (some ⟨g, o, none⟩) cap (q :: ps) off left ids where
  c0 := cell_other h.c0 (fun e => h.ne e.1.symm)
  c1 := cell_other h.c1 (fun e => h.ne e.1.symm)
  c2 := cell_other h.c2 (fun e => h.ne e.1.symm)
  c3 := cell_other h.c3 (fun e => h.ne e.1.symm)
  f0 := by rw [World.frozen?_setCell]; exact h.f0
  f1 := by rw [World.frozen?_setCell]; exact h.f1
  f2 := by rw [World.frozen?_setCell]; exact h.f2
  le := h.le
  nil := h.nil
  row := fun _ => by
    obtain ⟨o', ho, hc⟩ := h.row (by simp)
    obtain rfl : o = o' := by simpa using ho
    refine ⟨o, rfl, fun i bs hi => ?_⟩
    cases i with
    | zero =>
      obtain ⟨u0, h1, _, h3⟩ := hc 0 p rfl
      obtain rfl : q = bs := by simpa using hi
      refine ⟨u, ?_, piece_set hq h.ng _, by rw [World.frozen?_setCell]; exact h3⟩
      exact World.cell?_setCell_same _ _ _ h1
    | succ i =>
      obtain ⟨u0, h1, h2, h3⟩ := hc (i + 1) bs (by simpa using hi)
      exact ⟨u0, cell_other h1 (by omega), piece_set h2 h.ng _, by rw [World.frozen?_setCell]; exact h3⟩
  nr := h.nr
  ng := h.ng
  ne := h.ne
  lg := by have := h.lg; simpa [World.setCell] using this

/-- The first piece is dropped. -/
theorem RD.next {N : Nat} {w : World} {r g : Nat} {o cap : Nat} {p : List Int} {ps : List (List Int)} {off left : Nat} {ids : Bool} (h : RD N w r g (some ⟨g, o, none⟩) cap (p :: ps) off left ids) {ao : Option Addr} {n cap' : Nat}
    (hn : n = ps.length) (hcap : cap' = cap - 1) (ha : ao = if cap = 1 then some ⟨g, o, none⟩ else some ⟨g, o + 1, none⟩) :
    RD N (w.setCell ⟨r, 0, none⟩ (.slice ao n cap')) r g ao cap' ps off left ids where
  c0 := by rw [World.cell?_setCell_same _ _ _ h.c0, hn]
  c1 := cell_other h.c1 (by simp)
  c2 := cell_other h.c2 (by simp)
  c3 := cell_other h.c3 (by simp)
  f0 := by rw [World.frozen?_setCell]; exact h.f0
  f1 := by rw [World.frozen?_setCell]; exact h.f1
  f2 := by rw [World.frozen?_setCell]; exact h.f2
  le := by have := h.le; simp at this; omega
  nil := fun e => by rw [ha] at e; split at e <;> cases e
  row := fun hne => by
    obtain ⟨o', ho, hc⟩ := h.row (by simp)
    obtain rfl : o = o' := by simpa using ho
    have hpos := List.length_pos_iff.2 hne
    have hle := h.le
    simp at hle
    refine ⟨o + 1, by rw [ha, if_neg (by omega)], fun i bs hi => ?_⟩
    obtain ⟨u0, h1, h2, h3⟩ := hc (i + 1) bs (by simpa using hi)
    rw [show o + 1 + i = o + (i + 1) by omega]
    exact ⟨u0, cell_other h1 (fun e => h.ne e.1), piece_set h2 h.nr _, by rw [World.frozen?_setCell]; exact h3⟩
  nr := h.nr
  ng := h.ng
  ne := h.ne
  lg := by have := h.lg; simpa [World.setCell] using this

theorem RD.drewN {N : Nat} {w : World} {r g : Nat} {ao : Option Addr} {cap : Nat} {ls : List (List Int)} {off left : Nat} {ids : Bool} (h : RD N w r g ao cap ls off left ids) (n : Nat) : RD N (w.drewN n) r g ao cap ls off left ids :=
  h.move rfl rfl (below_drewN (Below.refl _ _) n) (Nat.le_refl _)
theorem RD.drew {N : Nat} {w : World} {r g : Nat} {ao : Option Addr} {cap : Nat} {ls : List (List Int)} {off left : Nat} {ids : Bool} (h : RD N w r g ao cap ls off left ids) : RD N w.drew r g ao cap ls off left ids := h.drewN 1
theorem piece_cut {N : Nat} {w : World} {b o c m : Nat} {p : List Int} (h : Piece N w (.slice (some ⟨b, o, none⟩) p.length c) p) (hm : m < p.length) {n c' : Nat} (hn : n = p.length - m) (hc : c' = c - m) : Piece N w (.slice (some ⟨b, o + m, none⟩) n c') (p.drop m) := by
  obtain ⟨ao, cap, e, h1, _, h3⟩ := h
  injection e with e1 e2 e3
  subst e3
  obtain ⟨b', o', hb, hlt, hcell⟩ := h3 (by intro e; rw [e] at hm; simp at hm)
  rw [← e1] at hb
  injection hb with hb
  injection hb with hb1 hb2
  subst hb1; subst hb2
  refine ⟨_, _, by rw [hn, List.length_drop], by rw [List.length_drop]; omega, by simp, fun _ => ⟨b, o + m, rfl, hlt, fun j x hx => ?_⟩⟩
  rw [show o + m + j = o + (m + j) by omega]
  exact hcell (m + j) x (by rw [List.getElem?_drop] at hx; exact hx)

/-- What skip leaves. -/
def Skipped (N : Nat) (r g : Nat) (ls : List (List Int)) (off left : Nat) (ids : Bool) (w : World) (e : Ending) (w' : World) : Prop :=
  e = .returned (.tuple #[]) ∧ Reader N w' r g ls off left ids ∧ Only r g w w'

/-- What holds at the head of skip's loop, k bytes still to pass over. -/
def SkI (N : Nat) (r g : Nat) (res : List (List Int)) (off left : Nat) (ids : Bool) (w : World) (k : Nat) (wr : World) : Prop :=
  ∃ ls, full ls ∧ k ≤ tot ls ∧ tot ls ≤ 1048576 ∧ dropB k ls = res ∧ Reader N wr r g ls off left ids ∧ Only r g w wr
theorem dropB_zero : ∀ ls : List (List Int), dropB 0 ls = ls
  | [] => rfl
  | p :: ps => by simp [dropB]
theorem dropB_cut {k : Nat} {p : List Int} {ps : List (List Int)} (hk : 0 < k) (h : k < p.length) : dropB k (p :: ps) = p.drop k :: ps := by
  rw [dropB, if_neg (by omega), if_pos h]
theorem dropB_next {k : Nat} {p : List Int} {ps : List (List Int)} (hk : 0 < k) (h : ¬ k < p.length) : dropB k (p :: ps) = dropB (k - p.length) ps := by
  rw [dropB, if_neg (by omega), if_neg h]
/-- At a round: there is a first piece. -/
theorem SkI.first {N : Nat} {r g : Nat} {res : List (List Int)} {off left : Nat} {ids : Bool} {w : World} {k : Nat} {wr : World} (h : SkI N r g res off left ids w k wr) (hk : 0 < k) :
    ∃ p ps o cap b q c, full (p :: ps) ∧ k ≤ p.length + tot ps ∧ p.length + tot ps ≤ 1048576 ∧ dropB k (p :: ps) = res ∧ RD N wr r g (some ⟨g, o, none⟩) cap (p :: ps) off left ids ∧ Only r g w wr ∧ 0 < p.length ∧ p.length ≤ c ∧
      wr.cell? ⟨g, o, none⟩ = some (.slice (some ⟨b, q, none⟩) p.length c) ∧ wr.frozen? ⟨g, o, none⟩ = false ∧ Piece N wr (.slice (some ⟨b, q, none⟩) p.length c) p := by
  obtain ⟨ls, hf, h1, h2, h3, ⟨ao, cap, hrd⟩, h5⟩ := h
  cases ls with
  | nil => simp [tot] at h1; omega
  | cons p ps =>
    obtain ⟨o, rfl, hc⟩ := hrd.row (by simp)
    obtain ⟨u, hu, hp, hfz⟩ := hc 0 p rfl
    have hne : p ≠ [] := hf p (by simp)
    have hp' := hp
    obtain ⟨a, c, rfl, hle, _, hbs⟩ := hp
    obtain ⟨b, q, rfl, _⟩ := hbs hne
    exact ⟨p, ps, o, cap, b, q, c, hf, h1, h2, h3, hrd, h5, List.length_pos_iff.2 hne, hle, by simpa using hu, by simpa using hfz, hp'⟩

set_option maxHeartbeats 1000000 in
theorem skip_any {N : Nat} {w : World} {r g : Nat} {ls : List (List Int)} {off left : Nat} {ids : Bool} (h : Reader N w r g ls off left ids) (hf : full ls) (n : Nat) (hn : n ≤ tot ls) (hl : tot ls ≤ left) (hl2 : left ≤ 1048576) (ho : off ≤ 1048576) :
    Calls Try.prog 31 #[.pointer (some ⟨r, 0, none⟩), .int .i64 n] w fun e w' => Skipped N r g (dropB n ls) (off + n) (left - n) ids w e w' := by
  obtain ⟨ao, cap, h⟩ := h
  have H := hid h
  have c1 := h.c1; have c2 := h.c2; have f1 := h.f1; have f2 := h.f2
  have HF := hid hf
  clear h hf
  go_enter Try.func31, Try.ntmps31
  go_wp2
  have RI : Hid (SkI N r g (dropB n ls) (off + n) (left - n) ids w n ((w.setCell ⟨r, 1, none⟩ (.int .i64 (off + n))).setCell ⟨r, 2, none⟩ (.int .i64 (left - n)))) :=
    hid ⟨ls, HF.out, hn, by omega, rfl, ⟨ao, cap, H.out.counts (by omega) (by omega)⟩, ((Only.refl r g w).setR 1 _).setR 2 _⟩
  clear H c1 c2 f1 f2 HF
  go_loopw [1] (fun m wr => ∃ k : Nat, m = .int .i64 k ∧ Hid (SkI N r g (dropB n ls) (off + n) (left - n) ids w k wr)) (fun m _ => (intOf m).toNat)
  case atStart => exact ⟨n, rfl, RI⟩
  case round =>
    clear RI
    obtain ⟨k, rfl, F⟩ := hrel
    by_cases hk : 0 < k
    · have hk' : (0 : Int) < (k : Int) := by omega
      obtain ⟨p, ps, o, cap, b, q, c, gf, g1, g2, g3, grd, gon, gp, gc, gcell, gfz, gpc⟩ := F.out.first hk
      have c0 := grd.c0
      have fr0 := grd.f0
      have hlen : 0 < (p :: ps).length := by simp
      have hcap := grd.le
      have hne := grd.ne
      have G := hid (And.intro gf (And.intro g3 (And.intro grd (And.intro gon gpc))))
      clear gf g3 grd gon gpc F
      by_cases hlt : k < p.length
      · have hlt' : (k : Int) < (p.length : Int) := by omega
        have i1 : (0 : Int) ≤ (k : Int) := by omega
        have i2 : (k : Int) ≤ (p.length : Int) := by omega
        have i3 : ¬ c = k := by omega
        generalize hn1 : (p :: ps).length = n1 at *
        have HN1 := hid hn1; clear hn1
        have hne1 : ¬ r = g := hne
        have hne2 : ¬ g = r := fun e => hne e.symm
        go_wp2_with fail
        go_region_held3 (fun w' => w'.cell? ⟨r, 0, none⟩ = some (.slice (some ⟨g, o, none⟩) n1 cap)) (go_keep) (fail)
        go_wp2_with fail
        refine bodyPost_ret (v := .tuple #[]) (by simp [results, Try.results31]) rfl ?_
        obtain ⟨_, e2, e3, e4, e5⟩ := G.out
        refine ⟨rfl, ?_, (e4.setG o _).drew⟩
        rw [← e2, dropB_cut hk hlt]
        exact ⟨_, _, (e3.cut (piece_cut e5 hlt rfl rfl)).drew⟩
      · have hlt' : ¬ (k : Int) < (p.length : Int) := by omega
        generalize hn1 : (p :: ps).length = n1 at *
        have HN1 := hid hn1; clear hn1
        by_cases hc1 : cap = 1
        all_goals
          go_wp2_with fail
          go_roundw
          case rel =>
            obtain ⟨e1, e2, e3, e4, e5⟩ := G.out
            refine ⟨k - p.length, by go_num, hid ⟨ps, fun x hx => e1 x (by simp [hx]), by omega, by omega, ?_, ⟨_, _, e3.next ?_ ?_ ?_⟩, e4.setR 0 _⟩⟩
            · rw [← e2, dropB_next hk hlt]
            · rw [← HN1.out]; simp
            · omega
            · simp [hc1]
          case measure => simp [intOf]; omega
    · obtain rfl : k = 0 := by omega
      go_wp2_with fail
      go_end0
      obtain ⟨ls', _, _, _, h4, h5, h6⟩ := F.out
      rw [dropB_zero] at h4
      rw [h4] at h5
      exact ⟨rfl, h5, h6⟩


set_option maxHeartbeats 400000 in
theorem zskip_any {N : Nat} {w : World} {r g : Nat} {ls : List (List Int)} {off left : Nat} {ids : Bool} (h : Reader N w r g ls off left ids) (hf : full ls) (n : Nat) (hn : n ≤ tot ls) (hl : tot ls ≤ left) (hl2 : left ≤ 1048576) (ho : off ≤ 1048576) :
    Calls Try.prog 25 #[.pointer (some ⟨r, 0, none⟩), .int .i64 n] w fun e w' => Skipped N r g (dropB n ls) (off + n) (left - n) ids w e w' := by
  have HC := hid (skip_any h hf n hn hl hl2 ho)
  clear h hf hn hl hl2 ho
  go_enter Try.func25, Try.ntmps25
  go_wp2_with fail
  refine HC.out.mono ?_
  rintro e w1 ⟨rfl, hr, hon⟩
  have HR := hid hr; have HO := hid hon
  clear hr hon HC
  go_wp2_with fail
  go_end0
  exact ⟨rfl, HR.out, HO.out⟩

end Go.Proofs.Qxb6002688a
