/-
  THE WALK OF ZZBoundBetween, out of boundBetween's contract.
-/
import Derived.Test.Qxb6002688aBb
namespace Go.Proofs.Qxb6002688a
open Go.RowKit

theorem pad_zero (l : List Int) : pad 32 l 0 = zeros := by simp [pad, zeros]

theorem bb_any (ta tb : Int) (la lb : List Int) (h1 : la.length = 32) (h2 : lb.length = 32) (hlt : cmpK ta la tb lb < 0) (w : World) :
    Calls Try.prog 28 #[.agg (recC ta la), .agg (recC tb lb)] w fun e w' =>
      e = .returned (.agg (bndC tb (pad 32 lb (bp ta la tb lb)) (bp ta la tb lb))) ∧ Below w.heap.size w w' := by
  by_cases e : ta = tb
  · subst e
    have hL : cmpL la lb < 0 := by simpa [cmpK] using hlt
    obtain ⟨hs, x, y, hx, hy, hxy⟩ := cmp_first la lb (by rw [h1, h2]) hL
    have hb : bp ta la ta lb = same la lb + 1 := by simp [bp]
    rw [hb]
    refine (bb_eq ta la lb h1 h2 (same la lb) x y hs hx hy (by simp; omega) w).mono ?_
    rintro e w' ⟨rfl, h⟩
    exact ⟨by simp, h⟩
  · have hb : bp ta la tb lb = 0 := by simp [bp, e]
    rw [hb, pad_zero]
    exact bb_ne ta tb la lb (by simpa using e) w

theorem bp_le (ta tb : Int) (la lb : List Int) (h1 : la.length = 32) (h2 : lb.length = 32) (hlt : cmpK ta la tb lb < 0) : bp ta la tb lb ≤ 32 := by
  by_cases e : ta = tb
  · subst e
    have hL : cmpL la lb < 0 := by simpa [cmpK] using hlt
    obtain ⟨hs, x, y, hx, hy, hxy⟩ := cmp_first la lb (by rw [h1, h2]) hL
    have := (List.getElem?_eq_some_iff.1 hy).1
    simp [bp]; omega
  · simp [bp, e]

theorem heap3_0 (w : World) (A B C : Obj) : (((w.alloc A).alloc B).alloc C).heap[w.heap.size]? = some A := by
  rw [heap_alloc_old (h := by simp; omega)]
  exact heap_alloc2_old w A B
theorem heap3_1 (w : World) (A B C : Obj) : (((w.alloc A).alloc B).alloc C).heap[w.heap.size + 1]? = some B := by
  rw [heap_alloc_old (h := by simp)]
  exact heap_alloc2_new w A B
theorem zb_world (w : World) (A B C : Obj) (w1 : World) (h : Below (w.heap.size + 1 + 1 + 1) (((w.alloc A).alloc B).alloc C) w1) : Below w.heap.size w w1 ∧ w.heap.size + 3 ≤ w1.heap.size :=
  ⟨((((Below.refl _ _).alloc (Nat.le_refl _) _).alloc (by simp) _).alloc (by simp; omega) _).trans (h.mono (by omega)), by have := h.size; simpa using this⟩

theorem zb_cells (w w1 : World) (tb : Int) (p : Nat) (pl : List Int) (W2 : World) (h : w1.alloc (.cells (bndC tb pl p) 52) = W2) (hl : pl.length = 32) (hB : Below w.heap.size w w1 ∧ w.heap.size + 3 ≤ w1.heap.size)
    (hz : w1.heap[w.heap.size + 1 + 1]? = some (.cells (bytes zeros) 25 (0, 0))) :
    W2.cell? ⟨w1.heap.size, 0, none⟩ = some (.int .u64 tb) ∧ W2.rangeAt w1.heap.size 1 (pl.map (Value.int .u8)) ∧ W2.cell? ⟨w1.heap.size, 33, none⟩ = some (.int .i64 p) ∧ W2.there (w.heap.size + 1 + 1) 0 32 ∧
      Below w.heap.size w W2 ∧ W2.heap[w.heap.size + 1 + 1]? = some (.cells (bytes zeros) 25 (0, 0)) := by
  subst h
  have hn := heap_alloc_new w1 (.cells (bndC tb pl p) 52)
  have ho : (w1.alloc (.cells (bndC tb pl p) 52)).heap[w.heap.size + 1 + 1]? = some (.cells (bytes zeros) 25 (0, 0)) := by rw [heap_alloc_old (h := by omega)]; exact hz
  refine ⟨?_, ?_, ?_, ?_, hB.1.alloc (by omega) _, ho⟩
  · rw [cell_of_row _ _ _ _ _ _ hn]; simp [bndC]
  · intro j v hv
    rw [cell_of_row _ _ _ _ _ _ hn, Nat.add_comm]
    have hj : j < (pl.map (Value.int .u8)).length := (List.getElem?_eq_some_iff.1 hv).1
    simp only [bndC, List.getElem?_toArray, List.getElem?_cons_succ]
    rw [List.getElem?_append_left hj]; exact hv
  · rw [cell_of_row _ _ _ _ _ _ hn]
    simp only [bndC, List.getElem?_toArray, List.getElem?_cons_succ]
    rw [List.getElem?_append_right (by simp; omega)]; simp [hl]
  · intro j hj
    refine ⟨?_, ?_⟩
    · rw [cell_of_row _ _ _ _ _ _ ho, bytes_at]
      rw [List.getElem?_eq_getElem (by rw [zeros_length]; omega)]; rfl
    · exact frozen_of_row _ _ _ _ _ ho

theorem cell_off {w : World} {b o : Nat} {v : Value} (h : w.cell? ⟨b, o, none⟩ = some v) {g k : Nat} {cs : List Value} (hne : ¬ b = g) : (w.setCells g k cs).cell? ⟨b, o, none⟩ = some v := by
  rw [World.cell?_setCells_out g cs k w ⟨b, o, none⟩ (fun e _ => absurd e hne)]; exact h

theorem below_setCells {B g : Nat} {a : World} (cs : List Value) : ∀ {w : World}, Below B a w → B ≤ g → ∀ o, Below B a (w.setCells g o cs) := by
  induction cs with
  | nil => intro w h _ o; exact h
  | cons c cs ih => intro w h hg o; exact ih (h.setCell (p := ⟨g, o, none⟩) hg c) hg (o + 1)

theorem results12 (tmps : Array Value) (w : World) (g : Nat) (cs : List Value)
    (hp : tmps.getD 5 undef = .pointer (some ⟨g, 0, none⟩)) (hc : w.rangeAt g 0 cs) (hi : (Try.prog.info? 25).map (·.size) = some cs.length) :
    (results Try.f12 tmps).run Try.prog w = .ok (.tuple #[tmps.getD 4 undef, .agg cs.toArray, tmps.getD 6 undef]) w := by
  have hp' : tmps[5]?.getD undef = .pointer (some ⟨g, 0, none⟩) := by simpa using hp
  simp [results, Try.results12, hp', asAddr, run_loadVar_mid w g 0 25 cs _ hc Try.underlying25 rfl hi]

set_option maxHeartbeats 400000 in
theorem zb_any (ta tb : Int) (la lb : List Int) (h1 : la.length = 32) (h2 : lb.length = 32) (hlt : cmpK ta la tb lb < 0) (w : World) :
    Calls Try.prog 12 #[.agg (recC ta la), .agg (recC tb lb)] w fun e w' =>
      e = .returned (.tuple #[.int .u64 tb, .agg (bytes (pad 32 lb (bp ta la tb lb))), .int .i64 (bp ta la tb lb)]) ∧ Below w.heap.size w w' := by
  have hbb := fun w => bb_any ta tb la lb h1 h2 hlt w
  have hp := bp_le ta tb la lb h1 h2 hlt
  generalize bp ta la tb lb = p at *
  have HC := hide hbb
  have hP := pad_length lb p h2 hp
  generalize pad 32 lb p = pl at *
  have HP := hide hP
  clear hbb hlt hP
  have hr0 := heap3_0 w (.cells (recC ta la) 27) (.cells (recC tb lb) 27) (.cells (bytes zeros) 25)
  have hr1 := heap3_1 w (.cells (recC ta la) 27) (.cells (recC tb lb) 27) (.cells (bytes zeros) 25)
  have H0 := hide hr0; have H1 := hide hr1
  clear hr0 hr1
  go_enter Try.func12, Try.ntmps12
  go_wp2_with (first
    | (refine wpList_alloc_as rfl 25 rfl _ zero25 ?_; simp only [Act.put, List.setIfInBounds_toArray, List.set_cons_succ, List.set_cons_zero, World.size_alloc])
    | refine wpList_load_row rfl 27 (.tmp 2) rfl w.heap.size rfl 27 (recC ta la) (0, 0) _ H0.out Try.underlying27 rfl (by rw [size27, recC_size, h1]) ?_
    | refine wpList_load_row rfl 27 (.tmp 3) rfl (w.heap.size + 1) rfl 27 (recC tb lb) (0, 0) _ H1.out Try.underlying27 rfl (by rw [size27, recC_size, h2]) ?_)
  clear H0 H1
  refine (HC.out _).mono ?_
  rintro e w1 ⟨rfl, hb⟩
  simp only [World.size_alloc] at hb
  have HB := hide (zb_world w _ _ _ w1 hb)
  have HZ : Hid (w1.heap[w.heap.size + 1 + 1]? = some (.cells (bytes zeros) 25 (0, 0))) := hide (by rw [hb.block _ (by omega)]; exact heap3_new w _ _ _)
  clear hb HC
  go_wp2_with (first
    | (refine wpList_alloc_as rfl 52 rfl _ zero52 ?_; simp only [Act.put, List.setIfInBounds_toArray, List.set_cons_succ, List.set_cons_zero])
    | refine wpList_store_last rfl 52 (.tmp 7) (.tmp 10) rfl 52 _ (bndC tb pl p) _ (by simp) rfl rfl (by rw [size52, bndC_size, HP.out]) (by rw [bndC_size, bndC_size, HP.out, zeros_length]) (bndC_one _ _ _) rfl ?_)
  generalize hW2 : w1.alloc (.cells (bndC tb pl p) 52) = W2
  obtain ⟨f0, f1, f2, f3, f4, f5⟩ := zb_cells w w1 tb p pl W2 hW2 HP.out HB.out HZ.out
  have HF := hide (And.intro f4 f5)
  have gne : ¬ w1.heap.size = w.heap.size + 1 + 1 := by have := HB.out.2; omega
  have gne' : ¬ w.heap.size + 1 + 1 = w1.heap.size := by have := HB.out.2; omega
  generalize w1.heap.size = b at *
  clear hW2 f4 f5
  have hu := Try.underlying25
  have hi : (Try.prog.info? 25).map (·.size) = some (pl.map (Value.int .u8)).length := by rw [size25, List.length_map, HP.out]
  have hl : (pl.map (Value.int .u8)).length = 32 := by rw [List.length_map, HP.out]
  have ho := map_one pl
  obtain ⟨cs, hcs⟩ : ∃ cs, pl.map (Value.int .u8) = cs := ⟨_, rfl⟩
  rw [hcs] at f1 hi hl ho
  have HCS := hide hcs; clear hcs
  go_region_held3 (fun w' => w'.cell? ⟨b, 0, none⟩ = some (.int .u64 tb) ∧ w'.rangeAt b 1 cs ∧ w'.cell? ⟨b, 33, none⟩ = some (.int .i64 p) ∧ w'.there (w.heap.size + 1 + 1) 0 32) (first | go_keep_ranges | (go_split_ands; refine ⟨?_, ?_, ?_, ?_⟩ <;> first | go_keep_ranges | exact cell_off (by assumption) (by assumption))) (fail)
  clear f0 f1 f2
  have HH : Hid (W2.drew.there (w.heap.size + 1 + 1) 0 cs.length) := hide (by rw [hl]; simpa using f3)
  have hi' := hi
  go_wp2_with fail
  refine bodyPost_ret (v := .tuple #[.int .u64 tb, .agg cs.toArray, .int .i64 p]) (results12 _ _ (w.heap.size + 1 + 1) cs rfl (World.rangeAt_setCells_same _ _ _ _ HH.out) hi) rfl ⟨?_, ?_⟩
  · rw [← HCS.out]; rfl
  · exact below_setCells cs HF.out.1.drew (by omega) 0
end Go.Proofs.Qxb6002688a
