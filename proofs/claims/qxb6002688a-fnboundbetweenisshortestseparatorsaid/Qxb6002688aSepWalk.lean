/-
  THE LAW FnBoundBetweenSeparates, WALKED.
-/
import Derived.Test.Qxb6002688aZb
namespace Go.Proofs.Qxb6002688a
open Go.RowKit

set_option maxHeartbeats 400000 in
theorem sep_ge (ta tb : Int) (la lb : List Int) (h1 : la.length = 32) (h2 : lb.length = 32) (hge : ¬ cmpK ta la tb lb < 0) (w : World) :
    Calls Try.prog 4 #[.int .u64 ta, .agg (bytes la), .int .u64 tb, .agg (bytes lb)] w fun e w' => e = .returned (.bool true) ∧ Below w.heap.size w w' := by
  have hc := fun w => cmp_any ta tb la lb h1 h2 w
  generalize cmpK ta la tb lb = c at *
  have HC := hide hc
  have H0 := hide (heap_alloc2_old w (.cells (bytes la) 23) (.cells (bytes lb) 23))
  have H1 := hide (heap_alloc2_new w (.cells (bytes la) 23) (.cells (bytes lb) 23))
  clear hc
  go_enter Try.func4, Try.ntmps4
  go_wp2_with (first
    | refine wpList_load_row rfl 23 (.tmp 5) rfl w.heap.size rfl 23 (bytes la) (0, 0) _ H0.out Try.underlying23 rfl (by rw [size23, bytes_size, h1]) ?_
    | refine wpList_load_row rfl 23 (.tmp 7) rfl (w.heap.size + 1) rfl 23 (bytes lb) (0, 0) _ H1.out Try.underlying23 rfl (by rw [size23, bytes_size, h2]) ?_)
  refine (HC.out _).mono ?_
  rintro e w1 ⟨rfl, hb⟩
  simp only [World.size_alloc] at hb
  have HB := hide hb; clear hb HC H0 H1
  go_wp2_with fail
  go_ret
  exact ⟨rfl, (((Below.refl _ _).alloc (Nat.le_refl _) _).alloc (by simp) _).trans (HB.out.mono (by omega))⟩

/-- Behind the first call: the two arguments lie where they lay. -/
theorem sep_w1 (w : World) (A B : Obj) (w1 : World) (hb : Below (w.heap.size + 1 + 1) ((w.alloc A).alloc B) w1) :
    w1.heap[w.heap.size]? = some A ∧ w1.heap[w.heap.size + 1]? = some B ∧ Below w.heap.size w w1 ∧ w.heap.size + 2 ≤ w1.heap.size :=
  ⟨by rw [hb.block _ (by omega)]; exact heap_alloc2_old w A B, by rw [hb.block _ (by omega)]; exact heap_alloc2_new w A B,
   (((Below.refl _ _).alloc (Nat.le_refl _) _).alloc (by simp) _).trans (hb.mono (by omega)), by have := hb.size; simpa using this⟩

/-- A call behind two new blocks: what lay below lies there. -/
theorem sep_w2 {w0 w1 w2 : World} {n0 : Nat} {A B : Obj} (h : w1.heap[n0]? = some A ∧ w1.heap[n0 + 1]? = some B ∧ Below n0 w0 w1 ∧ n0 + 2 ≤ w1.heap.size)
    {C D : Obj} (hb : Below (w1.heap.size + 1 + 1) ((w1.alloc C).alloc D) w2) :
    w2.heap[n0]? = some A ∧ w2.heap[n0 + 1]? = some B ∧ Below n0 w0 w2 ∧ n0 + 2 ≤ w2.heap.size := by
  obtain ⟨h1, h2, h3, h4⟩ := h
  refine ⟨?_, ?_, ?_, ?_⟩
  · rw [hb.block _ (by omega), heap_alloc_old (h := by simp; omega), heap_alloc_old (h := by omega)]; exact h1
  · rw [hb.block _ (by omega), heap_alloc_old (h := by simp; omega), heap_alloc_old (h := by omega)]; exact h2
  · exact ((h3.alloc (by omega) _).alloc (by simp; omega) _).trans (hb.mono (by omega))
  · have := hb.size; simp at this; omega

theorem sep_w3 {w0 w2 W3 : World} {n0 : Nat} {A B : Obj} (h : w2.heap[n0]? = some A ∧ w2.heap[n0 + 1]? = some B ∧ Below n0 w0 w2 ∧ n0 + 2 ≤ w2.heap.size) {C D : Obj} (hW : (w2.alloc C).alloc D = W3) :
    W3.heap[n0]? = some A ∧ W3.heap[n0 + 1]? = some B ∧ W3.heap[w2.heap.size + 1]? = some D ∧ Below n0 w0 W3 ∧ n0 + 2 ≤ w2.heap.size ∧ w2.heap.size + 2 ≤ W3.heap.size := by
  obtain ⟨h1, h2, h3, h4⟩ := h
  subst hW
  refine ⟨?_, ?_, heap_alloc2_new _ _ _, ?_, h4, by simp⟩
  · rw [heap_alloc_old (h := by simp; omega), heap_alloc_old (h := by omega)]; exact h1
  · rw [heap_alloc_old (h := by simp; omega), heap_alloc_old (h := by omega)]; exact h2
  · exact (h3.alloc (by omega) _).alloc (by simp; omega) _

theorem sep_w4 {w0 W3 w4 : World} {n0 b2 n : Nat} {A B D : Obj} (h : W3.heap[n0]? = some A ∧ W3.heap[n0 + 1]? = some B ∧ W3.heap[b2 + 1]? = some D ∧ Below n0 w0 W3 ∧ n0 + 2 ≤ b2 ∧ b2 + 2 ≤ W3.heap.size)
    (hb : Below (W3.drewN n).heap.size (W3.drewN n) w4) :
    w4.heap[n0]? = some A ∧ w4.heap[n0 + 1]? = some B ∧ w4.heap[b2 + 1]? = some D ∧ Below n0 w0 w4 ∧ n0 ≤ w4.heap.size := by
  obtain ⟨h1, h2, h3, h4, h5, h6⟩ := h
  have hsz : (W3.drewN n).heap.size = W3.heap.size := rfl
  refine ⟨?_, ?_, ?_, (below_drewN h4 n).trans (hb.mono (by omega)), by have := hb.size; omega⟩
  · rw [hb.block _ (by omega)]; exact h1
  · rw [hb.block _ (by omega)]; exact h2
  · rw [hb.block _ (by omega)]; exact h3

theorem row_cell {w : World} {g k : Nat} {l : List Int} {t : TypeId} {x : Int} (h : w.heap[g]? = some (.cells (bytes l) t (0, 0))) (hx : l[k]? = some x) : w.cell? ⟨g, k, none⟩ = some (.int .u8 x) := by
  rw [cell_of_row _ _ _ _ _ _ h, bytes_at, hx]; rfl

set_option maxHeartbeats 1000000 in
theorem sep_lt (ta tb : Int) (la lb : List Int) (h1 : la.length = 32) (h2 : lb.length = 32) (p : Nat) (hp : p ≤ 32) (pl : List Int) (hpl : pl.length = 32) (c c1 c2 : Int) (hc0 : c < 0) (hc1 : c1 < 0) (hc2 : c2 ≤ 0) (hA : ∀ k, k < p → pl[k]? = lb[k]?) (hO : ∀ k, p ≤ k → k < 32 → pl[k]? = some 0)
    (hc : ∀ w, Calls Try.prog 11 #[.int .u64 ta, .agg (bytes la), .int .u64 tb, .agg (bytes lb)] w fun e w' => e = .returned (.int .i64 c) ∧ Below w.heap.size w w')
    (hz : ∀ w, Calls Try.prog 12 #[.agg (recC ta la), .agg (recC tb lb)] w fun e w' => e = .returned (.tuple #[.int .u64 tb, .agg (bytes pl), .int .i64 p]) ∧ Below w.heap.size w w')
    (hk1 : ∀ w, Calls Try.prog 11 #[.int .u64 ta, .agg (bytes la), .int .u64 tb, .agg (bytes pl)] w fun e w' => e = .returned (.int .i64 c1) ∧ Below w.heap.size w w')
    (hk2 : ∀ w, Calls Try.prog 11 #[.int .u64 tb, .agg (bytes pl), .int .u64 tb, .agg (bytes lb)] w fun e w' => e = .returned (.int .i64 c2) ∧ Below w.heap.size w w')
    (w : World) :
    Calls Try.prog 4 #[.int .u64 ta, .agg (bytes la), .int .u64 tb, .agg (bytes lb)] w fun e w' => e = .returned (.bool true) ∧ Below w.heap.size w w' := by
  have HC := hide hc; have HZ := hide hz; have HK1 := hide hk1; have HK2 := hide hk2; have HA := hide hA; have HO := hide hO
  have hcd : decide (0 ≤ c) = false := by simp; omega
  have H0 := hide (heap_alloc2_old w (.cells (bytes la) 23) (.cells (bytes lb) 23))
  have H1 := hide (heap_alloc2_new w (.cells (bytes la) 23) (.cells (bytes lb) 23))
  clear hc hz hk1 hk2 hA hO
  go_enter Try.func4, Try.ntmps4
  go_wp2_with (first
    | refine wpList_load_row rfl 23 (.tmp 5) rfl w.heap.size rfl 23 (bytes la) (0, 0) _ H0.out Try.underlying23 rfl (by rw [size23, bytes_size, h1]) ?_
    | refine wpList_load_row rfl 23 (.tmp 7) rfl (w.heap.size + 1) rfl 23 (bytes lb) (0, 0) _ H1.out Try.underlying23 rfl (by rw [size23, bytes_size, h2]) ?_)
  refine (HC.out _).mono ?_
  rintro e w1 ⟨rfl, hb⟩
  simp only [World.size_alloc] at hb
  have F := hide (sep_w1 w _ _ w1 hb); clear hb HC H0 H1
  have hs0 : w.heap.size < w1.heap.size := by have := F.out.2.2.2; omega
  have hs1 : w.heap.size + 1 < w1.heap.size := by have := F.out.2.2.2; omega
  go_wp2_with (first
    | (refine wpList_load_row rfl 23 (.tmp 5) rfl w.heap.size rfl 23 (bytes la) (0, 0) _ F.out.1 Try.underlying23 rfl (by rw [size23, bytes_size, h1]) ?_; simp only [Act.put, List.setIfInBounds_toArray, List.set_cons_succ, List.set_cons_zero])
    | (refine wpList_load_row rfl 23 (.tmp 7) rfl (w.heap.size + 1) rfl 23 (bytes lb) (0, 0) _ (by rw [heap_alloc_old (h := hs1)]; exact F.out.2.1) Try.underlying23 rfl (by rw [size23, bytes_size, h2]) ?_; simp only [Act.put, List.setIfInBounds_toArray, List.set_cons_succ, List.set_cons_zero])
    | (refine wpList_build_as rfl 27 _ rfl [(0, .int .u64 ta), (1, .agg (bytes la))] (by rfl) _ (built27 ta la h1) ?_; simp only [Act.put, List.setIfInBounds_toArray, List.set_cons_succ, List.set_cons_zero])
    | (refine wpList_build_as rfl 27 _ rfl [(0, .int .u64 tb), (1, .agg (bytes lb))] (by rfl) _ (built27 tb lb h2) ?_; simp only [Act.put, List.setIfInBounds_toArray, List.set_cons_succ, List.set_cons_zero])
    | (refine wpList_alloc_as rfl 27 rfl _ zero27 ?_; simp only [Act.put, List.setIfInBounds_toArray, List.set_cons_succ, List.set_cons_zero, World.size_alloc])
    | refine wpList_store_last rfl 27 (.tmp 9) (.tmp 24) rfl 27 _ (recC ta la) _ (by simp) rfl rfl (by rw [size27, recC_size, h1]) (by rw [recC_size, recC_size, h1, zeros_length]) (recC_one _ _) rfl ?_
    | refine wpList_store_last rfl 27 (.tmp 10) (.tmp 27) rfl 27 _ (recC tb lb) _ (by simp) rfl rfl (by rw [size27, recC_size, h2]) (by rw [recC_size, recC_size, h2, zeros_length]) (recC_one _ _) rfl ?_
    | refine wpList_load_row rfl 27 (.tmp 9) rfl w1.heap.size rfl 27 (recC ta la) (0, 0) _ (heap_alloc2_old _ _ _) Try.underlying27 rfl (by rw [size27, recC_size, h1]) ?_
    | refine wpList_load_row rfl 27 (.tmp 10) rfl (w1.heap.size + 1) rfl 27 (recC tb lb) (0, 0) _ (heap_alloc2_new _ _ _) Try.underlying27 rfl (by rw [size27, recC_size, h2]) ?_)
  refine (HZ.out _).mono ?_
  rintro e w2 ⟨rfl, hb⟩
  simp only [World.size_alloc] at hb
  have F2 := hide (sep_w2 F.out hb); clear hb HZ F hs0 hs1
  have hs0 : w.heap.size < w2.heap.size := by have := F2.out.2.2.2; omega
  have hs1 : w.heap.size + 1 < w2.heap.size := by have := F2.out.2.2.2; omega
  have hp0 : decide ((p : Int) < 0) = false := by simp
  have hp1 : decide ((32 : Int) < (p : Int)) = false := by simp; omega
  have HPL := hide hpl; clear hpl
  go_wp2_with (first
    | (refine wpList_alloc_as rfl 25 rfl _ zero25 ?_; simp only [Act.put, List.setIfInBounds_toArray, List.set_cons_succ, List.set_cons_zero])
    | (refine wpList_alloc_as rfl 23 rfl _ zero23 ?_; simp only [Act.put, List.setIfInBounds_toArray, List.set_cons_succ, List.set_cons_zero, World.size_alloc])
    | refine wpList_store_last rfl 25 (.tmp 12) (.tmp 33) rfl 25 _ (bytes pl) _ rfl rfl rfl (by rw [size25, bytes_size, HPL.out]) (by rw [bytes_size, bytes_size, HPL.out, zeros_length]) (bytes_one _) rfl ?_
    | refine wpList_store_last rfl 23 (.tmp 14) (.tmp 41) rfl 23 _ (bytes pl) _ (by simp) rfl rfl (by rw [size23, bytes_size, HPL.out]) (by rw [bytes_size, bytes_size, HPL.out, zeros_length]) (bytes_one _) rfl ?_
    | (refine wpList_load_row rfl 25 (.tmp 12) rfl w2.heap.size rfl 25 (bytes pl) (0, 0) _ (heap_alloc_new _ _) Try.underlying25 rfl (by rw [size25, bytes_size, HPL.out]) ?_; simp only [Act.put, List.setIfInBounds_toArray, List.set_cons_succ, List.set_cons_zero]))
  generalize hW3 : (w2.alloc (.cells (bytes pl) 25)).alloc (.cells (bytes pl) 23) = W3
  have F3 := hide (sep_w3 F2.out hW3)
  clear hW3
  generalize w2.heap.size = b2 at *
  clear F2 hs0 hs1
  go_loopw [15] (fun i wr => ∃ k n : Nat, k ≤ 32 ∧ i = .int .i64 k ∧ wr = W3.drewN n) (fun i _ => 32 - (intOf i).toNat)
  case atStart => exact ⟨0, 0, by omega, rfl, rfl⟩
  case round =>
    obtain ⟨k, n, hk, rfl, rfl⟩ := hrel
    have k0 : (0 : Int) ≤ (k : Int) := by omega
    by_cases hlt : k < 32
    · have k1 : (k : Int) < 32 := by omega
      by_cases hkp : k < p
      · obtain ⟨z, hz⟩ : ∃ z, lb[k]? = some z := ⟨_, List.getElem?_eq_getElem (by omega)⟩
        have ca := row_cell F3.out.2.2.1 (show pl[k]? = some z by rw [HA.out k hkp]; exact hz)
        have cb := row_cell F3.out.2.1 hz
        clear hz
        go_wp2_with fail
        go_quiet (fail)
        go_wp2_with fail
        go_roundw
        case rel => exact ⟨k + 1, _, by omega, by go_num, rfl⟩
        case measure => simp [intOf]; omega
      · have ca := row_cell F3.out.2.2.1 (HO.out k (by omega) hlt)
        go_wp2_with fail
        go_roundw
        case rel => exact ⟨k + 1, _, by omega, by go_num, rfl⟩
        case measure => simp [intOf]; omega
    · have e1 : decide (c1 < 0) = true := by simp; omega
      have e2 : decide (c2 ≤ 0) = true := by simp; omega
      go_wp2_with (first
        | refine wpList_load_row rfl 23 (.tmp 5) rfl w.heap.size rfl 23 (bytes la) (0, 0) _ F3.out.1 Try.underlying23 rfl (by rw [size23, bytes_size, h1]) ?_
        | refine wpList_load_row rfl 23 (.tmp 14) rfl (b2 + 1) rfl 23 (bytes pl) (0, 0) _ F3.out.2.2.1 Try.underlying23 rfl (by rw [size23, bytes_size, HPL.out]) ?_)
      refine (HK1.out _).mono ?_
      rintro e w4 ⟨rfl, hb⟩
      have F4 := hide (sep_w4 F3.out hb)
      clear hb HK1 F3
      go_wp2_with (first
        | refine wpList_load_want 23 (.tmp 14) rfl rfl (b2 + 1) rfl 23 (bytes pl) (0, 0) _ F4.out.2.2.1 Try.underlying23 rfl (by rw [size23, bytes_size, HPL.out]) ?_
        | refine wpList_load_want 23 (.tmp 7) rfl rfl (w.heap.size + 1) rfl 23 (bytes lb) (0, 0) _ F4.out.2.1 Try.underlying23 rfl (by rw [size23, bytes_size, h2]) ?_)
      refine (HK2.out _).mono ?_
      rintro e w5 ⟨rfl, hb⟩
      have HB := hide (F4.out.2.2.2.1.trans (hb.mono F4.out.2.2.2.2))
      clear hb HK2 F4
      go_wp2_with fail
      go_ret
      exact ⟨rfl, HB.out⟩

end Go.Proofs.Qxb6002688a
