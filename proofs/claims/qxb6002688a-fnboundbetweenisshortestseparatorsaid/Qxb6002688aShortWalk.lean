/-
  THE LAW FnBoundBetweenIsShortestSeparator, WALKED.
-/
import Derived.Test.Qxb6002688aPadWalk
import Derived.Test.Qxb6002688aSepWalk
import Derived.Test.Qxb6002688aPlainS
namespace Go.Proofs.Qxb6002688a
open Go.RowKit

set_option maxHeartbeats 400000 in
theorem sho_ge (ta tb : Int) (la lb : List Int) (h1 : la.length = 32) (h2 : lb.length = 32) (hge : ¬ cmpK ta la tb lb < 0) (w : World) :
    Calls Try.prog 3 #[.int .u64 ta, .agg (bytes la), .int .u64 tb, .agg (bytes lb)] w fun e w' => e = .returned (.bool true) ∧ Below w.heap.size w w' := by
  have hc := fun w => cmp_any ta tb la lb h1 h2 w
  generalize cmpK ta la tb lb = c at *
  have HC := hide hc
  have H0 := hide (heap_alloc2_old w (.cells (bytes la) 23) (.cells (bytes lb) 23))
  have H1 := hide (heap_alloc2_new w (.cells (bytes la) 23) (.cells (bytes lb) 23))
  clear hc
  go_enter Try.func3, Try.ntmps3
  go_wp2_with (first
    | refine wpList_load_row rfl 23 (.tmp 5) rfl w.heap.size rfl 23 (bytes la) (0, 0) _ H0.out Try.underlying23 rfl (by rw [size23, bytes_size, h1]) ?_
    | refine wpList_load_row rfl 23 (.tmp 7) rfl (w.heap.size + 1) rfl 23 (bytes lb) (0, 0) _ H1.out Try.underlying23 rfl (by rw [size23, bytes_size, h2]) ?_)
  refine (HC.out _).mono ?_
  rintro e w1 ⟨rfl, hb⟩
  simp only [World.size_alloc] at hb
  have HB := hide hb; clear hb HC H0 H1
  go_wp2_with fail
  go_ret
  exact ⟨rfl, (((Below.refl _ _).alloc (Nat.le_refl _) _).alloc (by simp) _).trans (HB.out.mono (by omega))⟩

theorem guard23 (w : World) (x y : Operand) (a b : Array Value) : (eqGuard .eql 23 x y (.agg a) (.agg b)).run Try.prog w = .ok () w := by kernel_rfl

set_option maxHeartbeats 1000000 in
theorem sho_lt (ta tb : Int) (la lb : List Int) (h1 : la.length = 32) (h2 : lb.length = 32) (p : Nat) (pl : List Int) (hpl : pl.length = 32) (c : Int) (hc0 : c < 0)
    (hc : ∀ w, Calls Try.prog 11 #[.int .u64 ta, .agg (bytes la), .int .u64 tb, .agg (bytes lb)] w fun e w' => e = .returned (.int .i64 c) ∧ Below w.heap.size w w')
    (hz : ∀ w, Calls Try.prog 12 #[.agg (recC ta la), .agg (recC tb lb)] w fun e w' => e = .returned (.tuple #[.int .u64 tb, .agg (bytes pl), .int .i64 p]) ∧ Below w.heap.size w w')
    (hs : ∀ w, Calls Try.prog 13 #[.int .u64 ta, .agg (bytes la), .int .u64 tb, .agg (bytes lb)] w fun e w' => e = .returned (.tuple #[.int .i64 p, .agg (bytes pl)]) ∧ Below w.heap.size w w')
    (w : World) :
    Calls Try.prog 3 #[.int .u64 ta, .agg (bytes la), .int .u64 tb, .agg (bytes lb)] w fun e w' => e = .returned (.bool true) ∧ Below w.heap.size w w' := by
  have HC := hide hc; have HZ := hide hz; have HS := hide hs
  have hcd : decide (0 ≤ c) = false := by simp; omega
  have H0 := hide (heap_alloc2_old w (.cells (bytes la) 23) (.cells (bytes lb) 23))
  have H1 := hide (heap_alloc2_new w (.cells (bytes la) 23) (.cells (bytes lb) 23))
  clear hc hz hs
  go_enter Try.func3, Try.ntmps3
  go_wp2_with (first
    | refine wpList_load_row rfl 23 (.tmp 5) rfl w.heap.size rfl 23 (bytes la) (0, 0) _ H0.out Try.underlying23 rfl (by rw [size23, bytes_size, h1]) ?_
    | refine wpList_load_row rfl 23 (.tmp 7) rfl (w.heap.size + 1) rfl 23 (bytes lb) (0, 0) _ H1.out Try.underlying23 rfl (by rw [size23, bytes_size, h2]) ?_)
  refine (HC.out _).mono ?_
  rintro e w1 ⟨rfl, hb⟩
  simp only [World.size_alloc] at hb
  have F := hide (sep_w1 w _ _ w1 hb); clear hb HC H0 H1
  have hs0 : w.heap.size < w1.heap.size := by have := F.out.2.2.2; omega
  have hs1 : w.heap.size + 1 < w1.heap.size := by have := F.out.2.2.2; omega
  go_wp2_with (first
    | (refine wpList_load_row rfl 23 (.tmp 5) rfl w.heap.size rfl 23 (bytes la) (0, 0) _ F.out.1 Try.underlying23 rfl (by rw [size23, bytes_size, h1]) ?_; simp only [Act.put, List.setIfInBounds_toArray, List.set_cons_succ, List.set_cons_zero])
    | (refine wpList_load_row rfl 23 (.tmp 7) rfl (w.heap.size + 1) rfl 23 (bytes lb) (0, 0) _ (by rw [heap_alloc_old (h := hs1)]; exact F.out.2.1) Try.underlying23 rfl (by rw [size23, bytes_size, h2]) ?_; simp only [Act.put, List.setIfInBounds_toArray, List.set_cons_succ, List.set_cons_zero])
    | (refine wpList_build_as rfl 27 _ rfl [(0, .int .u64 ta), (1, .agg (bytes la))] (by rfl) _ (built27 ta la h1) ?_; simp only [Act.put, List.setIfInBounds_toArray, List.set_cons_succ, List.set_cons_zero])
    | (refine wpList_build_as rfl 27 _ rfl [(0, .int .u64 tb), (1, .agg (bytes lb))] (by rfl) _ (built27 tb lb h2) ?_; simp only [Act.put, List.setIfInBounds_toArray, List.set_cons_succ, List.set_cons_zero])
    | (refine wpList_alloc_as rfl 27 rfl _ zero27 ?_; simp only [Act.put, List.setIfInBounds_toArray, List.set_cons_succ, List.set_cons_zero, World.size_alloc])
    | refine wpList_store_last rfl 27 (.tmp 9) (.tmp 24) rfl 27 _ (recC ta la) _ (by simp) rfl rfl (by rw [size27, recC_size, h1]) (by rw [recC_size, recC_size, h1, zeros_length]) (recC_one _ _) rfl ?_
    | refine wpList_store_last rfl 27 (.tmp 10) (.tmp 27) rfl 27 _ (recC tb lb) _ (by simp) rfl rfl (by rw [size27, recC_size, h2]) (by rw [recC_size, recC_size, h2, zeros_length]) (recC_one _ _) rfl ?_
    | refine wpList_load_row rfl 27 (.tmp 9) rfl w1.heap.size rfl 27 (recC ta la) (0, 0) _ (heap_alloc2_old _ _ _) Try.underlying27 rfl (by rw [size27, recC_size, h1]) ?_
    | refine wpList_load_row rfl 27 (.tmp 10) rfl (w1.heap.size + 1) rfl 27 (recC tb lb) (0, 0) _ (heap_alloc2_new _ _ _) Try.underlying27 rfl (by rw [size27, recC_size, h2]) ?_)
  refine (HZ.out _).mono ?_
  rintro e w2 ⟨rfl, hb⟩
  simp only [World.size_alloc] at hb
  have F2 := hide (sep_w2 F.out hb); clear hb HZ F hs0 hs1
  have hs0 : w.heap.size < w2.heap.size := by have := F2.out.2.2.2; omega
  have hs1 : w.heap.size + 1 < w2.heap.size := by have := F2.out.2.2.2; omega
  have HPL := hide hpl; clear hpl
  go_wp2_with (first
    | (refine wpList_alloc_as rfl 25 rfl _ zero25 ?_; simp only [Act.put, List.setIfInBounds_toArray, List.set_cons_succ, List.set_cons_zero])
    | refine wpList_store_last rfl 25 (.tmp 12) (.tmp 33) rfl 25 _ (bytes pl) _ rfl rfl rfl (by rw [size25, bytes_size, HPL.out]) (by rw [bytes_size, bytes_size, HPL.out, zeros_length]) (bytes_one _) rfl ?_
    | refine wpList_load_row rfl 23 (.tmp 5) rfl w.heap.size rfl 23 (bytes la) (0, 0) _ (by rw [heap_alloc_old (h := hs0)]; exact F2.out.1) Try.underlying23 rfl (by rw [size23, bytes_size, h1]) ?_
    | refine wpList_load_row rfl 23 (.tmp 7) rfl (w.heap.size + 1) rfl 23 (bytes lb) (0, 0) _ (by rw [heap_alloc_old (h := hs1)]; exact F2.out.2.1) Try.underlying23 rfl (by rw [size23, bytes_size, h2]) ?_)
  refine (HS.out _).mono ?_
  rintro e w3 ⟨rfl, hb⟩
  simp only [World.size_alloc] at hb
  have HN : Hid (w3.heap[w2.heap.size]? = some (.cells (bytes pl) 25 (0, 0))) := hide (by rw [hb.block _ (by omega)]; exact heap_alloc_new _ _)
  have HB : Hid (Below w.heap.size w w3 ∧ w2.heap.size < w3.heap.size) := hide ⟨(F2.out.2.2.1.alloc (by omega) _).trans (hb.mono (by omega)), by have := hb.size; simp at this; omega⟩
  clear hb HS F2 hs0 hs1
  have g1 := fun (W : World) (x y : Operand) (a b : Array Value) => guard23 W x y a b
  have g2 := fun (W : World) => eq_arr pl HPL.out W
  have hlt : w2.heap.size < w3.heap.size := HB.out.2
  go_wp2_with (first
    | (refine wpList_alloc_as rfl 23 rfl _ zero23 ?_; simp only [Act.put, List.setIfInBounds_toArray, List.set_cons_succ, List.set_cons_zero])
    | refine wpList_store_last rfl 23 (.tmp 15) (.tmp 42) rfl 23 _ (bytes pl) _ rfl rfl rfl (by rw [size23, bytes_size, HPL.out]) (by rw [bytes_size, bytes_size, HPL.out, zeros_length]) (bytes_one _) rfl ?_
    | refine wpList_load_want 25 (.tmp 12) rfl rfl w2.heap.size rfl 25 (bytes pl) (0, 0) _ (by rw [heap_alloc_old (h := hlt)]; exact HN.out) Try.underlying25 rfl (by rw [size25, bytes_size, HPL.out]) ?_
    | refine wpList_load_want 23 (.tmp 15) rfl rfl w3.heap.size rfl 23 (bytes pl) (0, 0) _ (heap_alloc_new _ _) Try.underlying23 rfl (by rw [size23, bytes_size, HPL.out]) ?_)
  go_ret
  exact ⟨rfl, HB.out.1.alloc (by have := HB.out.1.size; omega) _⟩

end Go.Proofs.Qxb6002688a
