import Derived.Test.Qxb6002688aRows
import Derived.Test.Qxb6002688aPlainB
import Derived.WalkKit
import Derived.WalkSpells
import Derived.WalkLawsBesides
import Derived.BigQuiet
import Derived.Deep.QuietTactic
import Derived.Deep.MidRow
namespace Go.Proofs.Qxb6002688a
open Go.RowKit

/-- A fact is put aside, out of the walk's sight. -/
theorem hide {p : Prop} (h : p) : Hid p := h

/-- Bytes as cells. -/
def bytes (l : List Int) : Array Value := (l.map (Value.int .u8)).toArray
theorem bytes_size (l : List Int) : (bytes l).size = l.length := by simp [bytes]
theorem bytes_at (l : List Int) (i : Nat) : (bytes l)[i]? = l[i]?.map (Value.int .u8) := by simp [bytes]

theorem two_new (w : World) (o1 o2 : Obj) (n : Nat) : Below w.heap.size w (((w.alloc o1).alloc o2).drewN n) :=
  below_drewN (((Below.refl _ _).alloc (Nat.le_refl _) _).alloc (by simp) _) n

set_option maxHeartbeats 400000 in
theorem cmp_any (t1 t2 : Int) (l1 l2 : List Int) (h1 : l1.length = 32) (h2 : l2.length = 32) (w : World) :
    Calls Try.prog 11 #[.int .u64 t1, .agg (bytes l1), .int .u64 t2, .agg (bytes l2)] w fun e w' =>
      e = .returned (.int .i64 (cmpK t1 l1 t2 l2)) ∧ Below w.heap.size w w' := by
  by_cases c1 : t1 < t2
  · have hk : cmpK t1 l1 t2 l2 = -1 := by simp [cmpK, c1]
    rw [hk]; clear hk
    go_enter Try.func11, Try.ntmps11
    go_wp2
    go_ret
    exact ⟨rfl, two_new _ _ _ 0⟩
  by_cases c2 : t2 < t1
  · have hk : cmpK t1 l1 t2 l2 = 1 := by simp [cmpK, c1, c2]
    rw [hk]; clear hk
    go_enter Try.func11, Try.ntmps11
    go_wp2
    go_ret
    exact ⟨rfl, two_new _ _ _ 0⟩
  have hk : cmpK t1 l1 t2 l2 = cmpL l1 l2 := by simp [cmpK, c1, c2]
  rw [hk]; clear hk
  have cA : ∀ k x, l1[k]? = some x → ((w.alloc (.cells (bytes l1) 23)).alloc (.cells (bytes l2) 23)).cell? ⟨w.heap.size, k, none⟩ = some (.int .u8 x) := by
    intro k x hx
    rw [World.cell?_alloc_lt _ _ _ (by simp), cell_of_row _ _ k _ _ _ (heap_alloc_new w _), bytes_at, hx]
    rfl
  have cB : ∀ k x, l2[k]? = some x → ((w.alloc (.cells (bytes l1) 23)).alloc (.cells (bytes l2) 23)).cell? ⟨w.heap.size + 1, k, none⟩ = some (.int .u8 x) := by
    intro k x hx
    rw [cell_of_row _ _ k _ _ _ (heap_alloc2_new w _ _), bytes_at, hx]
    rfl
  go_enter Try.func11, Try.ntmps11
  go_wp2
  go_loopw [9] (fun i wr => ∃ k n : Nat, k ≤ 32 ∧ i = .int .i64 k ∧ wr = ((w.alloc (.cells (bytes l1) 23)).alloc (.cells (bytes l2) 23)).drewN n ∧ ∀ j, j < k → l1[j]? = l2[j]?) (fun i _ => 32 - (intOf i).toNat)
  case atStart => exact ⟨0, 0, by omega, rfl, rfl, by intro j hj; omega⟩
  case round =>
    obtain ⟨k, n, hk, rfl, rfl, hsame⟩ := hrel
    have HS := hide hsame; clear hsame
    by_cases hlt : k < 32
    · obtain ⟨x, hx⟩ : ∃ x, l1[k]? = some x := ⟨_, List.getElem?_eq_getElem (by omega)⟩
      obtain ⟨y, hy⟩ : ∃ y, l2[k]? = some y := ⟨_, List.getElem?_eq_getElem (by omega)⟩
      have ca := cA k x hx
      have cb := cB k y hy
      have HX := hide hx; have HY := hide hy
      clear cA cB hx hy
      have b0 : (0 : Int) ≤ (k : Int) := by omega
      have b1 : (k : Int) < 32 := by omega
      by_cases hxy : x < y
      · have HF := hide (cmp_lt l1 l2 k x y HS.out HX.out HY.out hxy)
        go_wp2_with fail
        go_quiet (fail)
        go_wp2_with fail
        go_ret
        exact ⟨by rw [HF.out]; rfl, below_drewN (two_new _ _ _ _) _⟩
      by_cases hyx : y < x
      · have HF := hide (cmp_gt l1 l2 k x y HS.out HX.out HY.out hyx)
        go_wp2_with fail
        go_quiet (fail)
        go_wp2_with fail
        go_quiet (fail)
        go_wp2_with fail
        go_ret
        exact ⟨by rw [HF.out]; rfl, below_drewN (below_drewN (two_new _ _ _ _) _) _⟩
      · have HE : Hid (x = y) := hide (by omega)
        go_wp2_with fail
        go_quiet (fail)
        go_wp2_with fail
        go_quiet (fail)
        go_wp2_with fail
        go_roundw
        case rel => exact ⟨k + 1, _, by omega, by go_num, rfl, cmp_next HS.out HX.out HY.out HE.out⟩
        case measure => simp [intOf]; omega
    · have HF := hide (cmp_end l1 l2 (k := k) (by omega) (by omega) HS.out)
      clear cA cB
      go_wp2_with fail
      go_ret
      exact ⟨by rw [HF.out]; rfl, two_new _ _ _ _⟩

end Go.Proofs.Qxb6002688a
