/-
  newMessageReader AND ZZNewMessageReader, WALKED.
-/
import Derived.Test.Qxb6002688aReader
import Derived.Test.Qxb6002688aOps
import Derived.Deep.AppendLies
namespace Go.Proofs.Qxb6002688a
open Go.RowKit

/-- What lies behind a reader's first four cells. -/
def rdRest : List Value := .int .u64 0 :: .int .u64 0 :: (List.replicate 32 (Value.int .u8 0) ++ [.int .i64 0])
/-- A new reader's cells. -/
def rdC (q : Bool) : Array Value := (.slice none 0 0 :: .int .i64 0 :: .int .i64 0 :: .bool q :: rdRest).toArray
theorem built56 (q : Bool) : Try.prog.built 56 [(3, .bool q)] = some (rdC q) := by kernel_rfl
theorem info38 : (Try.prog.info? 38).map (fun i => (i.zero, i.size, i.bytes)) = some (some (.slice none 0 0), 1, 24) := by kernel_rfl

/-- What holds at the head of the loop. -/
structure NI (N : Nat) (w : World) (ids : Bool) (done : List (List Int)) (r : Nat) (wr : World) (v : Value) (xs : List Value) : Prop where
  c0 : wr.cell? ⟨r, 0, none⟩ = some v
  c1 : wr.cell? ⟨r, 1, none⟩ = some (.int .i64 0)
  c2 : wr.cell? ⟨r, 2, none⟩ = some (.int .i64 (tot done))
  c3 : wr.cell? ⟨r, 3, none⟩ = some (.bool ids)
  f0 : wr.frozen? ⟨r, 0, none⟩ = false
  f1 : wr.frozen? ⟨r, 1, none⟩ = false
  f2 : wr.frozen? ⟨r, 2, none⟩ = false
  own : wr.ownsRow (r + 1) 38 1 v xs.length xs
  len : xs.length = (packed done).length
  pcs : ∀ (i : Nat) u bs, xs[i]? = some u → (packed done)[i]? = some bs → Piece N wr u bs
  bel : Below r w wr
  nr : N ≤ r

theorem NI.start (N : Nat) (w : World) (ids : Bool) (hN : N ≤ w.heap.size) : NI N w ids [] w.heap.size (w.alloc (.cells (rdC ids) 56)) (.slice none 0 0) [] where
  c0 := by rw [cell_of_row _ _ _ _ _ _ (heap_alloc_new w _)]; rfl
  c1 := by rw [cell_of_row _ _ _ _ _ _ (heap_alloc_new w _)]; rfl
  c2 := by rw [cell_of_row _ _ _ _ _ _ (heap_alloc_new w _)]; rfl
  c3 := by rw [cell_of_row _ _ _ _ _ _ (heap_alloc_new w _)]; rfl
  f0 := frozen_of_row _ _ _ _ _ (heap_alloc_new w _)
  f1 := frozen_of_row _ _ _ _ _ (heap_alloc_new w _)
  f2 := frozen_of_row _ _ _ _ _ (heap_alloc_new w _)
  own := World.ownsRow_nil _ _ _ _
  len := rfl
  pcs := by intro i u bs h; simp at h
  bel := (Below.refl _ _).alloc (Nat.le_refl _) _
  nr := hN

theorem tot_one (done : List (List Int)) (bs : List Int) : tot (done ++ [bs]) = tot done + bs.length := by rw [tot_append]; simp [tot]
theorem packed_nil (done : List (List Int)) : packed (done ++ [[]]) = packed done := by rw [packed_append]; simp [packed]
theorem packed_one (done : List (List Int)) (bs : List Int) (h : bs ≠ []) : packed (done ++ [bs]) = packed done ++ [bs] := by rw [packed_append]; simp [packed, h]

/-- An empty piece is passed by. -/
theorem NI.pass {N : Nat} {w : World} {ids : Bool} {done : List (List Int)} {r : Nat} {wr : World} {v : Value} {xs : List Value} (h : NI N w ids done r wr v xs) : NI N w ids (done ++ [[]]) r wr v xs where
  c0 := h.c0
  c1 := h.c1
  c2 := by rw [tot_one]; exact h.c2
  c3 := h.c3
  f0 := h.f0
  f1 := h.f1
  f2 := h.f2
  own := h.own
  len := by rw [packed_nil]; exact h.len
  pcs := by rw [packed_nil]; exact h.pcs
  bel := h.bel
  nr := h.nr

/-- Behind the append: the reader's own block is as it was; so is all below. -/
theorem NI.grown {N : Nat} {w : World} {ids : Bool} {done : List (List Int)} {r : Nat} {wr : World} {v : Value} {xs : List Value} (h : NI N w ids done r wr v xs) {o : Obj} {w1 : World} (hg : (wr.alloc o).grownBy w1 v.ownBlock) :
    w1.heap[r]? = wr.heap[r]? ∧ Below r wr w1 ∧ r < w1.heap.size := by
  have hlt : r < wr.heap.size := World.block_lt_of_cell? wr ⟨r, 0, none⟩ h.c0
  have hown := h.own.lt
  have hbl : ∀ k, k ≤ r → w1.heap[k]? = wr.heap[k]? := by
    intro k hk
    rw [hg.block k (by simp; omega) (fun e => by have := hown k e.symm; omega), heap_alloc_old (h := by omega)]
  exact ⟨hbl r (Nat.le_refl _), ⟨hg.os, hg.tape, hg.output, by have := hg.size; simp at this; omega, fun k hk => hbl k (by omega)⟩, by have := hg.size; simp at this; omega⟩

theorem NI.mid {N : Nat} {w : World} {ids : Bool} {done : List (List Int)} {r : Nat} {wr : World} {v : Value} {xs : List Value} (h : NI N w ids done r wr v xs) {o : Obj} {w1 : World} (hg : (wr.alloc o).grownBy w1 v.ownBlock) :
    w1.cell? ⟨r, 0, none⟩ = some v ∧ w1.cell? ⟨r, 2, none⟩ = some (.int .i64 (tot done)) ∧ w1.frozen? ⟨r, 0, none⟩ = false ∧ w1.frozen? ⟨r, 2, none⟩ = false := by
  obtain ⟨hr, _, _⟩ := h.grown hg
  exact ⟨by rw [World.cell?_of_block (a := ⟨r, 0, none⟩) hr]; exact h.c0, by rw [World.cell?_of_block (a := ⟨r, 2, none⟩) hr]; exact h.c2,
    by rw [World.frozen?_of_block (a := ⟨r, 0, none⟩) hr]; exact h.f0, by rw [World.frozen?_of_block (a := ⟨r, 2, none⟩) hr]; exact h.f2⟩

theorem NI.add {N : Nat} {w : World} {ids : Bool} {done : List (List Int)} {r : Nat} {wr : World} {v : Value} {xs : List Value} (h : NI N w ids done r wr v xs) {o : Obj} {w1 : World} (hg : (wr.alloc o).grownBy w1 v.ownBlock)
    {u v' : Value} {bs : List Int} (hp : Piece N wr u bs) (hne : bs ≠ []) (hown : w1.ownsRow (r + 1) 38 1 v' (xs.length + 1) (xs ++ [u])) {x : Int} (hx : x = ((tot done + bs.length : Nat) : Int)) :
    NI N w ids (done ++ [bs]) r ((w1.setCell ⟨r, 0, none⟩ v').setCell ⟨r, 2, none⟩ (.int .i64 x)) v' (xs ++ [u]) := by
  obtain ⟨hr, hb, hlt⟩ := h.grown hg
  have d0 : w1.cell? ⟨r, 0, none⟩ = some v := by rw [World.cell?_of_block (a := ⟨r, 0, none⟩) hr]; exact h.c0
  have d2 : w1.cell? ⟨r, 2, none⟩ = some (.int .i64 (tot done)) := by rw [World.cell?_of_block (a := ⟨r, 2, none⟩) hr]; exact h.c2
  exact {
    c0 := cell_other (by rw [World.cell?_setCell_same _ _ _ d0]) (by simp)
    c1 := cell_other (cell_other (by rw [World.cell?_of_block (a := ⟨r, 1, none⟩) hr]; exact h.c1) (by simp)) (by simp)
    c2 := by rw [World.cell?_setCell_same _ _ _ (cell_other d2 (by simp)), tot_one, hx]
    c3 := cell_other (cell_other (by rw [World.cell?_of_block (a := ⟨r, 3, none⟩) hr]; exact h.c3) (by simp)) (by simp)
    f0 := by rw [World.frozen?_setCell, World.frozen?_setCell, World.frozen?_of_block (a := ⟨r, 0, none⟩) hr]; exact h.f0
    f1 := by rw [World.frozen?_setCell, World.frozen?_setCell, World.frozen?_of_block (a := ⟨r, 1, none⟩) hr]; exact h.f1
    f2 := by rw [World.frozen?_setCell, World.frozen?_setCell, World.frozen?_of_block (a := ⟨r, 2, none⟩) hr]; exact h.f2
    own := by
      rw [List.length_append]
      exact ownsRow_setCell_below (ownsRow_setCell_below hown (a := ⟨r, 0, none⟩) (by simp) _) (a := ⟨r, 2, none⟩) (by simp) _
    len := by rw [packed_one done bs hne, List.length_append, List.length_append, h.len]; rfl
    pcs := by
      intro i u' bs' h1 h2
      rw [packed_one done bs hne] at h2
      have hbw : Below N wr ((w1.setCell ⟨r, 0, none⟩ v').setCell ⟨r, 2, none⟩ (.int .i64 x)) :=
        (((hb.mono h.nr).setCell (p := ⟨r, 0, none⟩) h.nr _).setCell (p := ⟨r, 2, none⟩) h.nr _)
      by_cases hi : i < xs.length
      · rw [List.getElem?_append_left hi] at h1
        rw [List.getElem?_append_left (by rw [← h.len]; exact hi)] at h2
        exact (h.pcs i u' bs' h1 h2).below hbw
      · have hi2 : i = xs.length := by
          have := (List.getElem?_eq_some_iff.1 h1).1
          simp at this; omega
        subst hi2
        have e1 : u = u' := by simpa using h1
        have e2 : bs = bs' := by rw [h.len] at h2; simpa using h2
        rw [← e1, ← e2]
        exact hp.below hbw
    bel := ((h.bel.trans hb).setCell (p := ⟨r, 0, none⟩) (Nat.le_refl _) _).setCell (p := ⟨r, 2, none⟩) (Nat.le_refl _) _
    nr := h.nr }

/-- At the loop's end: a reader. -/
theorem NI.reader {N : Nat} {w : World} {ids : Bool} {done : List (List Int)} {r : Nat} {wr : World} {v : Value} {xs : List Value} (h : NI N w ids done r wr v xs) (hne : packed done ≠ []) :
    ∃ g, Reader N wr r g (packed done) 0 (tot done) ids ∧ r < g := by
  rcases h.own.2 with ⟨_, h0⟩ | ⟨g, cap, cur, rfl, hbase, hh, hle, hmax, hsz, htake⟩
  · have := h.len
    rw [h0] at this
    exact absurd (List.eq_nil_of_length_eq_zero this.symm) hne
  · refine ⟨g, ⟨some ⟨g, 0, none⟩, cap, ?_⟩, by omega⟩
    exact {
      c0 := by rw [h.c0, h.len]
      c1 := h.c1
      c2 := h.c2
      c3 := h.c3
      f0 := h.f0
      f1 := h.f1
      f2 := h.f2
      le := by rw [← h.len]; exact hle
      nil := by simp
      row := fun _ => ⟨0, rfl, fun i bs hi => by
        have hlt : i < xs.length := by rw [h.len]; exact (List.getElem?_eq_some_iff.1 hi).1
        have hx : xs[i]? = some xs[i] := List.getElem?_eq_getElem hlt
        refine ⟨xs[i], ?_, h.pcs i _ bs hx hi, frozen_of_row _ _ _ _ _ hh⟩
        rw [cell_of_row _ _ _ _ _ _ hh, Nat.zero_add, ← hx]
        have ht := congrArg (fun l : List Value => l[i]?) htake
        simp only [List.getElem?_take] at ht
        rw [if_pos (by omega)] at ht
        rw [← ht]; simp⟩
      nr := h.nr
      ng := by have := h.nr; omega
      ne := by omega
      lg := (Array.getElem?_eq_some_iff.1 hh).1 }

/-- What newMessageReader leaves. -/
def Made (N : Nat) (ls : List (List Int)) (off left : Nat) (ids : Bool) (w : World) (e : Ending) (w' : World) : Prop :=
  ∃ r g, e = .returned (.pointer (some ⟨r, 0, none⟩)) ∧ Reader N w' r g ls off left ids ∧ Below w.heap.size w w' ∧ w.heap.size ≤ r ∧ w.heap.size ≤ g

theorem packed_ne {ls : List (List Int)} (h : 1 ≤ tot ls) : packed ls ≠ [] := by
  intro e
  have := packed_tot ls
  rw [e] at this
  simp [tot] at this
  omega

set_option maxHeartbeats 1000000 in
theorem new_any {N : Nat} {w : World} {v : Value} {ls : List (List Int)} (h : Pieces N w v ls) (hN : N ≤ w.heap.size) (ht : tot ls ≤ 1048576) (ht1 : 1 ≤ tot ls) (hn : ls.length ≤ 1048576) (ids : Bool) :
    Calls Try.prog 30 #[v, .bool ids] w fun e w' => Made N (dropB 1 (packed ls)) 1 (tot ls - 1) ids w e w' := by
  obtain ⟨ao, cap, rfl, hcap, hnil, hrow⟩ := h
  have HR := hid hrow; clear hrow hnil
  obtain ⟨i0, hi, hz0, hz1, hz2⟩ := info_parts info38
  have HI := hid (And.intro hi (And.intro hz0 (And.intro hz1 hz2)))
  clear hi hz0 hz1 hz2
  have ST := hid (NI.start N w ids hN)
  go_enter Try.func30, Try.ntmps30
  go_wp2_with (first
    | (refine wpList_build_as rfl 56 _ rfl [(3, .bool ids)] (by rfl) _ (built56 ids) ?_; simp only [Act.put, List.setIfInBounds_toArray, List.set_cons_succ, List.set_cons_zero]))
  go_loopw [13] (fun i wr => ∃ k : Nat, k ≤ ls.length ∧ i = .int .i64 k ∧ Hid (∃ v xs, NI N w ids (ls.take k) w.heap.size wr v xs)) (fun i _ => ls.length - (intOf i).toNat)
  case atStart => exact ⟨0, by omega, rfl, hid ⟨_, _, ST.out⟩⟩
  case round =>
    clear ST
    obtain ⟨k, hk, rfl, F⟩ := hrel
    have b0 : (0 : Int) ≤ (k : Int) := by omega
    obtain ⟨v, xs, hni⟩ := F.out
    by_cases hlt : k < ls.length
    · obtain ⟨b, o, bs, a, c, rfl, hbs, hcell, hpc⟩ := (HR.out.below (hni.bel.mono (Nat.le_refl _)) hN).at hlt
      have HS := hid (take_snoc ls k bs hbs)
      have hle := tot_at_le ls k bs hbs
      have c0 := hni.c0
      have c2 := hni.c2
      have hxl : xs.length ≤ 1048576 := by
        have h1 := packed_length (ls.take k)
        have h2 := hni.len
        simp at h1; omega
      have G := hid (And.intro hni hpc)
      clear hni hpc F hbs
      by_cases hbe : bs = []
      · subst hbe
        go_wp2_with fail
        go_roundw
        case rel => exact ⟨k + 1, by omega, by go_num, hid ⟨v, xs, by rw [HS.out]; exact G.out.1.pass⟩⟩
        case measure => simp [intOf]; omega
      · have hpos : 0 < bs.length := List.length_pos_iff.2 hbe
        have HBE := hid hbe; clear hbe
        have hpos' : (0 : Int) < (bs.length : Int) := by omega
        go_wp2_with (first
          | (at_builtin; refine wpList_append_lies _ rfl (.tmp 24) (.tmp 26) 33 rfl (w.heap.size + 1) 38 i0 (.slice none 0 0) 1 24 Try.underlying33 HI.out.1 HI.out.2.1 HI.out.2.2.1 HI.out.2.2.2 rfl (by decide) v xs.length xs rfl (G.out.1.own.alloc _) ⟨wr.heap.size, 0, none⟩ 1 1 [.slice a bs.length c] rfl rfl (cell_one_new _ _ _) (by simp [Value.oneCell']) (by decide) (by unfold maxLen; omega) (by omega) (by simp; have := G.out.1.bel.size; omega) (wr.heap.size + 1) (by simp) ?_; intro g cap1 w1 hown1 hgrow1 _ _; obtain ⟨q0, q2, q4, q5⟩ := G.out.1.mid hgrow1; have A := hid (And.intro hown1 hgrow1); clear hown1 hgrow1 c0 c2 hcell))
        go_roundw
        case rel => exact ⟨k + 1, by omega, by go_num, hid ⟨_, _, by rw [HS.out]; exact G.out.1.add A.out.2 G.out.2 HBE.out A.out.1 (by omega)⟩⟩
        case measure => simp [intOf]; omega
    · obtain rfl : k = ls.length := by omega
      rw [List.take_length] at hni
      obtain ⟨g, hrd, hrg⟩ := hni.reader (packed_ne ht1)
      have HC := hid (skip_any hrd (packed_full ls) 1 (by rw [packed_tot]; exact ht1) (by rw [packed_tot]; exact Nat.le_refl _) ht (by omega))
      have HB := hid (And.intro hni.bel hrg)
      clear hni hrd hrg F
      go_wp2_with fail
      refine HC.out.mono ?_
      rintro e w2 ⟨rfl, hr, hon⟩
      have HRD := hid hr; have HO := hid hon
      clear hr hon HC
      go_wp2_with fail
      go_ret
      exact ⟨w.heap.size, g, rfl, HRD.out, HB.out.1.trans (HO.out.below (Nat.le_refl _) (by have := HB.out.2; omega)), Nat.le_refl _, by have := HB.out.2; omega⟩

set_option maxHeartbeats 400000 in
theorem znew_any {N : Nat} {w : World} {v : Value} {ls : List (List Int)} (h : Pieces N w v ls) (hN : N ≤ w.heap.size) (ht : tot ls ≤ 1048576) (ht1 : 1 ≤ tot ls) (hn : ls.length ≤ 1048576) (ids : Bool) :
    Calls Try.prog 19 #[v, .bool ids] w fun e w' => Made N (dropB 1 (packed ls)) 1 (tot ls - 1) ids w e w' := by
  have HC := hid (new_any h hN ht ht1 hn ids)
  clear h hN ht ht1 hn
  go_enter Try.func19, Try.ntmps19
  go_wp2_with fail
  refine HC.out.mono ?_
  rintro e w1 ⟨r, g, rfl, hr⟩
  have HR := hid hr; clear hr HC
  go_wp2_with fail
  go_ret
  exact ⟨r, g, rfl, HR.out⟩

end Go.Proofs.Qxb6002688a
