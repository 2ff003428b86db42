/-
  zzPadPrefix AND zzShortestBound, WALKED.
-/
import Derived.Test.Qxb6002688aZb
import Derived.Test.Qxb6002688aEqArr
namespace Go.Proofs.Qxb6002688a
open Go.RowKit

theorem pad_set (l : List Int) (k : Nat) (x : Int) (hl : l.length = 32) (hx : l[k]? = some x) : (bytes (pad 32 l k)).setIfInBounds k (.int .u8 x) = bytes (pad 32 l (k + 1)) := by
  have hk : k < 32 := by have := (List.getElem?_eq_some_iff.1 hx).1; omega
  apply Array.ext_getElem?
  intro i
  rw [Array.getElem?_setIfInBounds, bytes_at, bytes_at, bytes_size, pad_length l k hl (by omega)]
  by_cases e : k = i
  · subst e
    rw [if_pos rfl, if_pos hk, pad_at hl (by omega) k (by omega), hx]; rfl
  · rw [if_neg e]
    by_cases h1 : i < k
    · rw [pad_at hl (by omega) i h1, pad_at hl (by omega) i (by omega)]
    · by_cases h2 : i < 32
      · rw [pad_off hl (by omega) i (by omega) h2, pad_off hl (by omega) i (by omega) h2]
      · rw [List.getElem?_eq_none (by rw [pad_length l k hl (by omega)]; omega), List.getElem?_eq_none (by rw [pad_length l (k + 1) hl (by omega)]; omega)]

theorem row_cell' {w : World} {g k : Nat} {l : List Int} {t : TypeId} {x : Int} (h : w.heap[g]? = some (.cells (bytes l) t (0, 0))) (hx : l[k]? = some x) : w.cell? ⟨g, k, none⟩ = some (.int .u8 x) := by
  rw [cell_of_row _ _ _ _ _ _ h, bytes_at, hx]; rfl

set_option maxHeartbeats 400000 in
theorem padp_any (l : List Int) (hl : l.length = 32) (p : Nat) (hp : p ≤ 32) (w : World) :
    Calls Try.prog 29 #[.agg (bytes l), .int .i64 p] w fun e w' => e = .returned (.agg (bytes (pad 32 l p))) ∧ Below w.heap.size w w' := by
  have HL := hide hl
  go_enter Try.func29, Try.ntmps29
  go_wp2_with (first
    | (refine wpList_alloc_as rfl 23 rfl _ zero23 ?_; simp only [Act.put, List.setIfInBounds_toArray, List.set_cons_succ, List.set_cons_zero, World.size_alloc]))
  go_loopw [6] (fun i wr => ∃ k : Nat, k ≤ p ∧ i = .int .i64 k ∧ Hid (wr.heap[w.heap.size]? = some (.cells (bytes l) 23 (0, 0)) ∧ wr.heap[w.heap.size + 1]? = some (.cells (bytes zeros) 23 (0, 0)) ∧
      wr.heap[w.heap.size + 1 + 1]? = some (.cells (bytes (pad 32 l k)) 23 (0, 0)) ∧ Below w.heap.size w wr)) (fun i _ => p - (intOf i).toNat)
  case atStart =>
    refine ⟨0, by omega, rfl, hide ⟨heap3_0 w _ _ _, heap3_1 w _ _ _, by rw [pad_zero]; exact heap3_new w _ _ _, ?_⟩⟩
    exact (((Below.refl _ _).alloc (Nat.le_refl _) _).alloc (by simp) _).alloc (by simp; omega) _
  case round =>
    obtain ⟨k, hk, rfl, F⟩ := hrel
    have k0 : (0 : Int) ≤ (k : Int) := by omega
    by_cases hlt : k < p
    · have k1 : (k : Int) < 32 := by omega
      obtain ⟨x, hx⟩ : ∃ x, l[k]? = some x := ⟨_, List.getElem?_eq_getElem (by omega)⟩
      have ca := row_cell' F.out.1 hx
      have cb := row_cell' F.out.2.2.1 (pad_off hl (by omega) k (by omega) (by omega))
      have fz := frozen_of_row _ _ k _ _ F.out.2.2.1
      have HX := hide hx; clear hx
      go_wp2_with fail
      go_roundw
      case rel =>
        refine ⟨k + 1, by omega, by go_num, hide ⟨?_, ?_, ?_, ?_⟩⟩
        · rw [heap_setCell_other _ _ _ _ (by simp; omega)]; exact F.out.1
        · rw [heap_setCell_other _ _ _ _ (by simp)]; exact F.out.2.1
        · rw [heap_setCell_same _ _ _ _ _ _ F.out.2.2.1, pad_set l k x HL.out HX.out]
        · exact F.out.2.2.2.setCell (by simp; omega) _
      case measure => simp [intOf]; omega
    · obtain rfl : k = p := by omega
      have HP := hide (pad_length l k hl hp)
      go_wp2_with (first
        | refine wpList_load_row rfl 23 (.tmp 5) rfl (w.heap.size + 1 + 1) rfl 23 (bytes (pad 32 l k)) (0, 0) _ F.out.2.2.1 Try.underlying23 rfl (by rw [size23, bytes_size, HP.out]) ?_
        | refine wpList_store_row rfl 23 (.tmp 4) (.tmp 21) rfl (w.heap.size + 1) (bytes (pad 32 l k)) rfl rfl 23 _ F.out.2.1 (by rw [size23, bytes_size, HP.out]) (by rw [bytes_size, bytes_size, HP.out, zeros_length]) (bytes_one _) ?_)
      refine bodyPost_ret (v := .agg (bytes (pad 32 l k))) (results_cell_row Try.results29 _ _ (w.heap.size + 1) 23 (bytes (pad 32 l k)) (0, 0) _ rfl (setRow_heap _ _ _ _ _ _ F.out.2.1) Try.underlying23 rfl (by rw [size23, bytes_size, HP.out])) rfl ⟨rfl, ?_⟩
      exact below_setRow F.out.2.2.2 (by omega) _

/-- What a round of the search keeps: the two arguments' blocks, the result's block, and that nothing old has turned. -/
def ShF (w : World) (la lb : List Int) (wr : World) : Prop :=
  wr.heap[w.heap.size]? = some (.cells (bytes la) 23 (0, 0)) ∧ wr.heap[w.heap.size + 1]? = some (.cells (bytes lb) 23 (0, 0)) ∧ wr.heap[w.heap.size + 1 + 1]? = some (.cells (bytes zeros) 23 (0, 0)) ∧
    Below w.heap.size w wr ∧ w.heap.size + 3 ≤ wr.heap.size
theorem ShF.below {w : World} {la lb : List Int} {wr w' : World} (h : ShF w la lb wr) (hb : Below wr.heap.size wr w') : ShF w la lb w' := by
  obtain ⟨h1, h2, h3, h4, h5⟩ := h
  refine ⟨?_, ?_, ?_, h4.trans (hb.mono (by omega)), by have := hb.size; omega⟩
  · rw [hb.block _ (by omega)]; exact h1
  · rw [hb.block _ (by omega)]; exact h2
  · rw [hb.block _ (by omega)]; exact h3
theorem below_new (w : World) (o : Obj) : Below w.heap.size w (w.alloc o) := (Below.refl _ _).alloc (Nat.le_refl _) _

theorem row_range {w : World} {g : Nat} {l : List Int} {t : TypeId} (h : w.heap[g]? = some (.cells (bytes l) t (0, 0))) : w.rangeAt g 0 (l.map (Value.int .u8)) := by
  intro j v hv
  rw [cell_of_row _ _ _ _ _ _ h, bytes_at]
  simpa using hv
theorem row_there {w : World} {g n : Nat} {l : List Int} {t : TypeId} (h : w.heap[g]? = some (.cells (bytes l) t (0, 0))) (hl : l.length = n) : w.there g 0 n := by
  intro j hj
  refine ⟨?_, frozen_of_row _ _ _ _ _ h⟩
  rw [cell_of_row _ _ _ _ _ _ h, bytes_at, List.getElem?_eq_getElem (by omega)]; rfl

theorem results13 (tmps : Array Value) (w : World) (g : Nat) (cs : List Value)
    (hp : tmps.getD 9 undef = .pointer (some ⟨g, 0, none⟩)) (hc : w.rangeAt g 0 cs) (hi : (Try.prog.info? 23).map (·.size) = some cs.length) :
    (results Try.f13 tmps).run Try.prog w = .ok (.tuple #[tmps.getD 8 undef, .agg cs.toArray]) w := by
  have hp' : tmps[9]?.getD undef = .pointer (some ⟨g, 0, none⟩) := by simpa using hp
  simp [results, Try.results13, hp', asAddr, run_loadVar_mid w g 0 23 cs _ hc Try.underlying23 rfl hi]

set_option maxHeartbeats 1000000 in
theorem short_any (ta tb : Int) (la lb : List Int) (h1 : la.length = 32) (h2 : lb.length = 32) (p : Nat) (hp : p ≤ 32)
    (hlo : ∀ k, k < p → cmpK tb (pad 32 lb k) ta la ≤ 0) (hhi : 0 < cmpK tb (pad 32 lb p) ta la) (w : World) :
    Calls Try.prog 13 #[.int .u64 ta, .agg (bytes la), .int .u64 tb, .agg (bytes lb)] w fun e w' =>
      e = .returned (.tuple #[.int .i64 p, .agg (bytes (pad 32 lb p))]) ∧ Below w.heap.size w w' := by
  have HLO := hide hlo; have HHI := hide hhi; have H1 := hide h1; have H2 := hide h2
  clear hlo hhi
  go_enter Try.func13, Try.ntmps13
  go_wp2_with (first
    | (refine wpList_alloc_as rfl 23 rfl _ zero23 ?_; simp only [Act.put, List.setIfInBounds_toArray, List.set_cons_succ, List.set_cons_zero, World.size_alloc]))
  go_loopw [10] (fun i wr => ∃ k : Nat, k ≤ p ∧ i = .int .i64 k ∧ Hid (ShF w la lb wr)) (fun i _ => p - (intOf i).toNat)
  case atStart =>
    refine ⟨0, by omega, rfl, hide ⟨heap3_0 w _ _ _, heap3_1 w _ _ _, heap3_new w _ _ _, ?_, by simp⟩⟩
    exact (((Below.refl _ _).alloc (Nat.le_refl _) _).alloc (by simp) _).alloc (by simp; omega) _
  case round =>
    obtain ⟨k, hk, rfl, F⟩ := hrel
    have k0 : (0 : Int) ≤ (k : Int) := by omega
    have k1 : (k : Int) ≤ 32 := by omega
    have HP := hide (pad_length lb k h2 (by omega))
    have HC1 := hide (padp_any lb h2 k (by omega))
    have HC2 := hide (cmp_any tb ta (pad 32 lb k) la HP.out h1)
    go_wp2_with (first
      | refine wpList_load_row rfl 23 (.tmp 7) rfl (w.heap.size + 1) rfl 23 (bytes lb) (0, 0) _ F.out.2.1 Try.underlying23 rfl (by rw [size23, bytes_size, H2.out]) ?_)
    refine (HC1.out _).mono ?_
    rintro e w1 ⟨rfl, hb⟩
    have F1 := hide (F.out.below hb); clear hb F HC1
    have F2 := hide (F1.out.below (below_new w1 (.cells (bytes (pad 32 lb k)) 23)))
    go_wp2_with (first
      | (refine wpList_alloc_as rfl 23 rfl _ zero23 ?_; simp only [Act.put, List.setIfInBounds_toArray, List.set_cons_succ, List.set_cons_zero])
      | refine wpList_store_last rfl 23 (.tmp 11) (.tmp 18) rfl 23 _ (bytes (pad 32 lb k)) _ rfl rfl rfl (by rw [size23, bytes_size, HP.out]) (by rw [bytes_size, bytes_size, HP.out, zeros_length]) (bytes_one _) rfl ?_
      | refine wpList_load_row rfl 23 (.tmp 11) rfl w1.heap.size rfl 23 (bytes (pad 32 lb k)) (0, 0) _ (heap_alloc_new _ _) Try.underlying23 rfl (by rw [size23, bytes_size, HP.out]) ?_
      | refine wpList_load_row rfl 23 (.tmp 5) rfl w.heap.size rfl 23 (bytes la) (0, 0) _ F2.out.1 Try.underlying23 rfl (by rw [size23, bytes_size, H1.out]) ?_)
    refine (HC2.out _).mono ?_
    rintro e w2 ⟨rfl, hb⟩
    have F3 := hide (F2.out.below hb)
    have HN : Hid (w2.heap[w1.heap.size]? = some (.cells (bytes (pad 32 lb k)) 23 (0, 0))) := hide (by rw [hb.block _ (by simp)]; exact heap_alloc_new _ _)
    have hne : w.heap.size + 3 ≤ w1.heap.size := F1.out.2.2.2.2
    clear hb F1 F2 HC2
    by_cases hlt : k < p
    · have hle := HLO.out k hlt
      generalize cmpK tb (pad 32 lb k) ta la = c at *
      go_wp2_with fail
      go_roundw
      case rel => exact ⟨k + 1, by omega, by go_num, F3⟩
      case measure => simp [intOf]; omega
    · obtain rfl : k = p := by omega
      have hgt := HHI.out
      generalize cmpK tb (pad 32 lb k) ta la = c at *
      go_wp2_with fail
      obtain ⟨cs, hcs⟩ : ∃ cs, (pad 32 lb k).map (Value.int .u8) = cs := ⟨_, rfl⟩
      have hl : cs.length = 32 := by rw [← hcs, List.length_map, HP.out]
      have hu := Try.underlying23
      have hi : (Try.prog.info? 23).map (·.size) = some cs.length := by rw [size23, hl]
      have ho : ∀ v ∈ cs, v.oneCell' = true := by rw [← hcs]; exact map_one _
      have f1 : w2.rangeAt w1.heap.size 0 cs := by rw [← hcs]; exact row_range HN.out
      have f2 : w2.there (w.heap.size + 1 + 1) 0 32 := row_there F3.out.2.2.1 zeros_length
      have HCS := hide hcs; clear hcs
      have gne : ¬ w1.heap.size = w.heap.size + 1 + 1 := by omega
      generalize w1.heap.size = b at *
      go_region_held3 (fun w' => w'.rangeAt b 0 cs ∧ w'.there (w.heap.size + 1 + 1) 0 32) (go_keep_ranges) (fail)
      have HH : Hid (w2.drew.there (w.heap.size + 1 + 1) 0 cs.length) := hide (by rw [hl]; simpa using f2)
      clear f1
      go_wp2_with fail
      refine bodyPost_ret (v := .tuple #[.int .i64 k, .agg cs.toArray]) (results13 _ _ (w.heap.size + 1 + 1) cs rfl (World.rangeAt_setCells_same _ _ _ _ HH.out) hi) rfl ⟨?_, ?_⟩
      · rw [← HCS.out]; rfl
      · exact below_setCells cs F3.out.2.2.2.1.drew (by omega) 0

end Go.Proofs.Qxb6002688a
