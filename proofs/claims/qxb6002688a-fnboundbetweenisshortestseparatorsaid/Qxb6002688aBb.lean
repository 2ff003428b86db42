/-
  THE WALK OF boundBetween.
-/
import Derived.Test.Qxb6002688aOps
import Derived.Deep.RegionHeld3
import Derived.Laws.CopyOwn
namespace Go.Proofs.Qxb6002688a
open Go.RowKit

theorem cell3_0 (w : World) (A : Array Value) (t : TypeId) (o2 o3 : Obj) (j : Nat) (v : Value) (h : A[j]? = some v) : (((w.alloc (.cells A t)).alloc o2).alloc o3).cell? ⟨w.heap.size, j, none⟩ = some v := by
  rw [World.cell?_alloc_lt _ _ _ (by simp; omega), World.cell?_alloc_lt _ _ _ (by simp), cell_of_row _ _ j _ _ _ (heap_alloc_new w _), h]
theorem cell3_1 (w : World) (A : Array Value) (t : TypeId) (o1 o3 : Obj) (j : Nat) (v : Value) (h : A[j]? = some v) : (((w.alloc o1).alloc (.cells A t)).alloc o3).cell? ⟨w.heap.size + 1, j, none⟩ = some v := by
  rw [World.cell?_alloc_lt _ _ _ (by simp), cell_of_row _ _ j _ _ _ (heap_alloc2_new w _ _), h]

theorem heap3_new (w : World) (A B C : Obj) : (((w.alloc A).alloc B).alloc C).heap[w.heap.size + 1 + 1]? = some C := by
  have h := heap_alloc_new ((w.alloc A).alloc B) C
  have e : ((w.alloc A).alloc B).heap.size = w.heap.size + 1 + 1 := by simp
  rwa [e] at h

set_option maxHeartbeats 400000 in
theorem bb_ne (ta tb : Int) (la lb : List Int) (hne : (ta != tb) = true) (w : World) :
    Calls Try.prog 28 #[.agg (recC ta la), .agg (recC tb lb)] w fun e w' =>
      e = .returned (.agg (bndC tb zeros 0)) ∧ Below w.heap.size w w' := by
  have ca := fun o => cell3_0 w (recC ta la) 27 (.cells (recC tb lb) 27) o 0 _ (recC_zero ta la)
  have cb := fun o => cell3_1 w (recC tb lb) 27 (.cells (recC ta la) 27) o 0 _ (recC_zero tb lb)
  go_enter Try.func28, Try.ntmps28
  go_wp2_with (first
    | refine wpList_alloc_as rfl 52 rfl _ zero52 ?_
    | refine wpList_build_as rfl 52 _ rfl [(0, .int .u64 tb)] (by rfl) _ (built52a tb) ?_
    | refine wpList_store_last rfl 52 (.tmp 4) (.tmp 14) rfl 52 _ (bndC tb zeros 0) _ (by simp) rfl rfl (by rw [size52, bndC_size, zeros_length]) (by rw [bndC_size, bndC_size]) (bndC_one _ _ _) rfl ?_)
  refine bodyPost_ret (v := .agg (bndC tb zeros 0)) (results_cell_row Try.results28 _ _ (w.heap.size + 1 + 1) 52 (bndC tb zeros 0) (0, 0) _ rfl (heap3_new w _ _ _) Try.underlying52 rfl (by rw [size52, bndC_size, zeros_length])) rfl ⟨rfl, ?_⟩
  exact (((Below.refl _ _).alloc (Nat.le_refl _) _).alloc (by simp) _).alloc (by simp; omega) _

theorem size5 : (Try.prog.info? 5).map (·.size) = some 1 := by kernel_rfl
theorem map_one (l : List Int) : ∀ v ∈ l.map (Value.int .u8), v.oneCell' = true := by
  intro v hv
  obtain ⟨x, _, rfl⟩ := List.mem_map.1 hv
  rfl
theorem bb_world (w : World) (t : Int) (la lb : List Int) (n m k : Nat) (W4 : World) (h : ((((w.alloc (.cells (recC t la) 27)).alloc (.cells (recC t lb) 27)).alloc (.cells (bndC 0 zeros 0) 52)).drewN (n + m)).alloc (.cells (bndC t zeros (k + 1)) 52) = W4) :
    W4.heap[w.heap.size + 1 + 1 + 1]? = some (.cells (bndC t zeros (k + 1)).toList.toArray 52 (0, 0)) ∧
    (∀ j v, ((lb.take (k + 1)).map (Value.int .u8))[j]? = some v → W4.cell? ((⟨w.heap.size + 1, 1, none⟩ : Addr).add j) = some v) ∧
    W4.heap[w.heap.size + 1 + 1]? = some (.cells (bndC 0 zeros 0) 52 (0, 0)) ∧ Below w.heap.size w W4 ∧ W4.heap.size = w.heap.size + 4 := by
  subst h
  refine ⟨?_, ?_, ?_, ?_, ?_⟩
  · rw [Array.toArray_toList]
    have := heap_alloc_new ((((w.alloc (.cells (recC t la) 27)).alloc (.cells (recC t lb) 27)).alloc (.cells (bndC 0 zeros 0) 52)).drewN (n + m)) (.cells (bndC t zeros (k + 1)) 52)
    simpa using this
  · intro j v hv
    rw [Addr.add_mid, World.cell?_alloc_lt _ _ _ (by simp), World.cell?_drewN]
    refine cell3_1 w _ _ _ _ _ _ ?_
    have hj : (lb.map (Value.int .u8))[j]? = some v := by
      rw [List.map_take] at hv
      rw [List.getElem?_take] at hv
      split at hv
      · exact hv
      · cases hv
    rw [Nat.add_comm]; simpa [recC] using hj
  · rw [heap_alloc_old (h := by simp)]
    exact heap3_new w _ _ _
  · exact (below_drewN ((((Below.refl _ _).alloc (Nat.le_refl _) _).alloc (by simp) _).alloc (by simp; omega) _) _).alloc (by simp; omega) _
  · simp

theorem pad_length (l : List Int) (p : Nat) (h : l.length = 32) (hp : p ≤ 32) : (pad 32 l p).length = 32 := by simp [pad]; omega
theorem bnd_fit (l : List Int) (t p : Int) (k : Nat) (h : l.length = 32) (hk : k < 32) : 1 + ((l.take (k + 1)).map (Value.int .u8)).length ≤ (bndC t zeros p).toList.length := by
  have e : (bndC t zeros p).toList.length = 34 := by rw [Array.length_toList, bndC_size, zeros_length]
  rw [e]; simp; omega
theorem bnd_splice (l : List Int) (t p : Int) (k : Nat) (h : l.length = 32) (hk : k < 32) : splice (bndC t zeros p).toList 1 ((l.take (k + 1)).map (Value.int .u8)) = (bndC t (pad 32 l (k + 1)) p).toList := by
  have e1 : ((l.take (k + 1)).map (Value.int .u8)).length = k + 1 := by simp; omega
  have e2 : 31 - k = 32 - (k + 1) := by omega
  simp only [splice, e1, bndC, pad, zeros, List.take_succ_cons, List.take_zero, List.cons_append, List.nil_append, List.map_append, List.map_replicate]
  rw [show 1 + (k + 1) = (k + 1) + 1 by omega, List.drop_succ_cons, List.drop_append_of_le_length (by simp; omega), List.drop_replicate, List.append_assoc]

set_option maxHeartbeats 400000 in
theorem bb_eq (t : Int) (la lb : List Int) (h1 : la.length = 32) (h2 : lb.length = 32) (d : Nat) (x y : Int) (hs : ∀ j, j < d → la[j]? = lb[j]?) (hx : la[d]? = some x) (hy : lb[d]? = some y) (hxy : (x == y) = false) (w : World) :
    Calls Try.prog 28 #[.agg (recC t la), .agg (recC t lb)] w fun e w' =>
      e = .returned (.agg (bndC t (pad 32 lb (d + 1)) (d + 1))) ∧ Below w.heap.size w w' := by
  have ca := fun o => cell3_0 w (recC t la) 27 (.cells (recC t lb) 27) o 0 _ (recC_zero t la)
  have cb := fun o => cell3_1 w (recC t lb) 27 (.cells (recC t la) 27) o 0 _ (recC_zero t lb)
  have cai := fun o k z (h : la[k]? = some z) => cell3_0 w (recC t la) 27 (.cells (recC t lb) 27) o (1 + k) _ (recC_at t la k z h)
  have cbi := fun o k z (h : lb[k]? = some z) => cell3_1 w (recC t lb) 27 (.cells (recC t la) 27) o (1 + k) _ (recC_at t lb k z h)
  have hd : d < 32 := by have := (List.getElem?_eq_some_iff.1 hy).1; omega
  have HS := hide hs; have HX := hide hx; have HY := hide hy
  have HA := hide cai; have HB := hide cbi
  clear hs hx hy cai cbi
  go_enter Try.func28, Try.ntmps28
  go_wp2_with (first
    | refine wpList_alloc_as rfl 52 rfl _ zero52 ?_)
  go_loopw [5] (fun i wr => ∃ k n : Nat, k ≤ d ∧ i = .int .i64 k ∧ wr = (((w.alloc (.cells (recC t la) 27)).alloc (.cells (recC t lb) 27)).alloc (.cells (bndC 0 zeros 0) 52)).drewN n) (fun i _ => d - (intOf i).toNat)
  case atStart => exact ⟨0, 0, by omega, rfl, rfl⟩
  case round =>
    obtain ⟨k, n, hk, rfl, rfl⟩ := hrel
    have b0 : (0 : Int) ≤ (k : Int) := by omega
    have b1 : (k : Int) < 32 := by omega
    by_cases hlt : k < d
    · obtain ⟨z, hz⟩ : ∃ z, la[k]? = some z := ⟨_, List.getElem?_eq_getElem (by omega)⟩
      have ca1 := HA.out (.cells (bndC 0 zeros 0) 52) k z hz
      have cb1 := HB.out (.cells (bndC 0 zeros 0) 52) k z (by rw [← HS.out k hlt]; exact hz)
      clear hz
      go_wp2_with fail
      go_quiet (fail)
      go_wp2_with fail
      go_roundw
      case rel => exact ⟨k + 1, _, by omega, by go_num, rfl⟩
      case measure => simp [intOf]; omega
    · obtain rfl : k = d := by omega
      have ca1 := HA.out (.cells (bndC 0 zeros 0) 52) k x HX.out
      have cb1 := HB.out (.cells (bndC 0 zeros 0) 52) k y HY.out
      go_wp2_with fail
      go_quiet (fail)
      clear ca1 cb1
      go_wp2_with (first
        | (refine wpList_alloc_as rfl 52 rfl _ zero52 ?_; simp only [Act.put, List.setIfInBounds_toArray, List.set_cons_succ, List.set_cons_zero, World.heap_drewN, World.size_alloc])
        | refine wpList_build_as rfl 52 _ rfl [(0, .int .u64 t), (2, .int .i64 (k + 1))] (by rfl) _ (built52b t _) ?_
        | refine wpList_store_last rfl 52 (.tmp 6) (.tmp 30) rfl 52 _ (bndC t zeros (k + 1)) _ (by simp) rfl rfl (by rw [size52, bndC_size, zeros_length]) (by rw [bndC_size, bndC_size]) (bndC_one _ _ _) rfl ?_)
      generalize hW4 : ((((w.alloc (.cells (recC t la) 27)).alloc (.cells (recC t lb) 27)).alloc (.cells (bndC 0 zeros 0) 52)).drewN (n + nq)).alloc (.cells (bndC t zeros (k + 1)) 52) = W4
      have F := hide (bb_world w t la lb n nq k W4 hW4)
      clear hW4 ca cb HA HB
      have b2 : (0 : Int) ≤ (k : Int) + 1 := by omega
      have b3 : (k : Int) + 1 ≤ 32 := by omega
      have b4 : IntKind.i64.wrap ((k : Int) + 1) = (k : Int) + 1 := by rw [IntKind.wrap_i64]; omega
      go_region_held3 (fun _ => True) (trivial) ((refine step_copy_splice rfl (.tmp 34) (.tmp 38) 38 38 rfl 5 Try.underlying38 size5 (some ⟨w.heap.size + 1 + 1 + 1, 1, none⟩) (some ⟨w.heap.size + 1, 1, none⟩) (k + 1) 32 (k + 1) 32 (by rfl) (by rfl) (w.heap.size + 1 + 1 + 1) 1 (bndC t zeros (k + 1)).toList 52 (by exact F.out.1) ((lb.take (k + 1)).map (Value.int .u8)) (by simp; omega) (fun _ => ⟨rfl, _, rfl, F.out.2.1⟩) (bnd_fit lb t _ k h2 hd) (map_one _) (w.heap.size + 1 + 1 + 1) W4 (Below.refl _ _).drew (Nat.le_refl _) ?_; intro w1 hg1 hb1))
      have hsp := bnd_splice lb t (k + 1) k h2 hd
      have HG : Hid (w1.heap[w.heap.size + 1 + 1 + 1]? = some (.cells (bndC t (pad 32 lb (k + 1)) (k + 1)) 52 (0, 0))) := hide (by rw [hg1.out, hsp])
      have HR : Hid (w1.heap[w.heap.size + 1 + 1]? = some (.cells (bndC 0 zeros 0) 52 (0, 0))) := hide (by rw [hb1.block _ (by omega)]; exact F.out.2.2.1)
      have HB : Hid (Below w.heap.size w w1) := hide (F.out.2.2.2.1.trans (hb1.mono (by omega)))
      have HP := hide (pad_length lb (k + 1) h2 (by omega))
      clear hg1 hb1 hsp F
      go_wp2_with (first
        | refine wpList_load_row rfl 52 (.tmp 6) rfl (w.heap.size + 1 + 1 + 1) rfl 52 (bndC t (pad 32 lb (k + 1)) (k + 1)) (0, 0) _ HG.out Try.underlying52 rfl (by rw [size52, bndC_size, HP.out]) ?_
        | (refine wpList_store_row rfl 52 (.tmp 4) (.tmp 40) rfl (w.heap.size + 1 + 1) (bndC t (pad 32 lb (k + 1)) (k + 1)) rfl rfl 52 _ HR.out (by rw [size52, bndC_size, HP.out]) (by rw [bndC_size, bndC_size, HP.out, zeros_length]) (bndC_one _ _ _) ?_))
      refine bodyPost_ret (v := .agg (bndC t (pad 32 lb (k + 1)) (k + 1))) (results_cell_row Try.results28 _ _ (w.heap.size + 1 + 1) 52 (bndC t (pad 32 lb (k + 1)) (k + 1)) (0, 0) _ rfl (setRow_heap _ _ _ _ _ _ HR.out) Try.underlying52 rfl (by rw [size52, bndC_size, HP.out])) rfl ⟨rfl, ?_⟩
      exact below_setRow HB.out (by omega) _
end Go.Proofs.Qxb6002688a
