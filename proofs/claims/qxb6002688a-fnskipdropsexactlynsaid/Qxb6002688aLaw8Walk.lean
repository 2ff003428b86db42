/-
  THE LAW FnSkipDropsExactlyN, WALKED.
-/
import Derived.Test.Qxb6002688aLawKit
namespace Go.Proofs.Qxb6002688a
open Go.RowKit

set_option maxHeartbeats 2000000 in
theorem law8_walk {N : Nat} {w : World} {v : Value} {ls : List (List Int)} (h : Pieces N w v ls) (hN : N ≤ w.heap.size) (n : Int) :
    Calls Try.prog 8 #[v, .int .i64 n] w fun e w' => e = .returned (.bool true) ∧ Below w.heap.size w w' := by
  have H := hid h; clear h
  go_enter Try.func8, Try.ntmps8
  go_wp2_with fail
  refine (bytes24_any H.out n).mono ?_
  rintro e w ⟨b, rfl, rfl⟩
  cases b
  · go_wp2_with fail
    go_ret
    exact ⟨rfl, Below.refl _ _⟩
  go_wp2_with fail
  refine (fits_any H.out).mono ?_
  rintro e w ⟨b, rfl, rfl, hfit⟩
  cases b
  · go_wp2_with fail
    go_ret
    exact ⟨rfl, Below.refl _ _⟩
  have hfit' := hfit rfl
  clear hfit
  have ht : tot ls ≤ 1048576 := by omega
  have hn : ls.length ≤ 1048576 := by omega
  clear hfit'
  go_wp2_with fail
  refine (total_any H.out ht hn).mono ?_
  rintro e w ⟨rfl, rfl⟩
  by_cases h1 : tot ls < 1
  · have h1' : (tot ls : Int) < 1 := by omega
    go_wp2_with fail
    go_ret
    exact ⟨rfl, Below.refl _ _⟩
  obtain ⟨T, hT⟩ : ∃ T, tot ls = T + 1 := ⟨tot ls - 1, by omega⟩
  rw [hT] at ht ⊢
  have HT := hid hT; clear hT h1
  have h1d : decide (((T + 1 : Nat) : Int) < 1) = false := by simp; omega
  go_wp2_with fail
  refine (clone_any H.out hN (by rw [HT.out]; exact ht) hn).mono ?_
  rintro e w1 ⟨v1, rfl, hp1, hb1⟩
  have P1 := hid hp1; have B1 := hid hb1
  clear hp1 hb1 H
  go_wp2_with fail
  refine (znew_any P1.out (Nat.le_refl _) (by rw [HT.out]; exact ht) (by rw [HT.out]; omega) hn false).mono ?_
  rw [HT.out, show T + 1 - 1 = T by omega]
  rintro e w3 ⟨r, g, rfl, hr, hb3, _, _⟩
  have R := hid hr; have B3 := hid hb3
  clear hr hb3
  have F1 := hid (new_facts ls T HT.out hn)
  generalize dropB 1 (packed ls) = l1 at *
  go_wp2_with fail
  refine (state_any R.out).mono ?_
  rintro e w4 ⟨v4, rfl, hp4, n4, rfl⟩
  have P4 := hid hp4; clear hp4
  by_cases hneg : n < 0
  · go_wp2_with fail
    go_ret
    exact ⟨rfl, bdraw (bnext B1.out B3.out) _⟩
  have hnd : decide (n < 0) = false := by simp; omega
  by_cases hbig : (T : Int) < n
  · go_wp2_with fail
    go_ret
    exact ⟨rfl, bdraw (bnext B1.out B3.out) _⟩
  have hbd : decide ((T : Int) < n) = false := by simp; omega
  obtain ⟨m, rfl⟩ := Int.eq_ofNat_of_zero_le (show 0 ≤ n by omega)
  obtain ⟨L, rfl⟩ : ∃ L, T = m + L := ⟨T - m, by omega⟩
  clear hneg hbig
  have hsz : w1.heap.size ≤ w3.heap.size := B3.out.size
  have htm : ¬ m + L < m := by omega
  have htm' : decide (m + L < m) = false := by simp
  obtain ⟨f0, hf0⟩ : ∃ f0, l1.flatten = f0 := ⟨_, rfl⟩
  have HF0 := hid hf0
  have hfl : f0.length = m + L := by rw [← hf0, ← tot_flatten, F1.out.2.1]
  clear hf0
  go_wp2_with fail
  refine (flatten_fr_at P4.out hsz (by exact below_drewN (Below.refl _ _) _) (by rw [F1.out.2.1]; omega) F1.out.2.2.1).mono ?_
  rw [HF0.out]
  rintro e w5 ⟨b5, c5, rfl, hp5, hb5, hf5, hc5⟩
  rw [hfl] at hc5 ⊢
  have P5 := hid hp5; have B5 := hid hb5; have HFL := hid hfl
  clear hp5 hb5 hfl
  go_wp2_with fail
  refine (zskip_any (R.out.below (bnext (below_drewN (Below.refl _ _) n4) B5.out)) F1.out.1 m (by rw [F1.out.2.1]; omega) (by rw [F1.out.2.1]; exact Nat.le_refl _) (by omega) (by omega)).mono ?_
  rw [show m + L - m = L by omega]
  rintro e w6 ⟨rfl, hr6, ho6⟩
  have R6 := hid hr6; have O6 := hid ho6
  clear hr6 ho6
  go_wp2_with fail
  refine (state_any R6.out).mono ?_
  rintro e w7 ⟨v7, rfl, hp7, n7, rfl⟩
  have P7 := hid hp7; clear hp7
  have F2 := hid (skip_facts l1 m L F1.out.1 F1.out.2.1 F1.out.2.2.1)
  have hrl := R.out.lt
  have P6 := hid (P5.out.only O6.out (by have := hf5; simp at this; omega) (by have := hf5; simp at this; omega))
  have HRL := hid hrl; clear hrl hf5
  have hsz6 : w1.heap.size ≤ w6.heap.size := by have h1 := O6.out.size; have h2 := B5.out.size; simp at h2; omega
  have hs56 : w5.heap.size = w6.heap.size := O6.out.size.symm
  have BE := hid (show Below w.heap.size w w6 from (bnext (bdraw (bnext B1.out B3.out) n4) B5.out).trans (O6.out.below (Nat.le_trans B1.out.size HRL.out.2.2.1) (Nat.le_trans B1.out.size HRL.out.2.2.2.1)))
  generalize dropB m l1 = l2 at *
  go_wp2_with fail
  refine (noEmpty_any (P7.out.drawn hsz6 n7) F2.out.1 F2.out.2.2.1).mono ?_
  rintro e w8 ⟨rfl, rfl⟩
  go_wp2_with fail
  refine (total_any (P7.out.drawn hsz6 n7) (by rw [F2.out.2.1]; omega) F2.out.2.2.1).mono ?_
  rw [F2.out.2.1]
  rintro e w8 ⟨rfl, rfl⟩
  have hle : l2.flatten.length ≤ 1048576 := by rw [← tot_flatten, F2.out.2.1]; omega
  have HLE := hid hle
  have HLC := hid hc5
  clear hle P5 R R6 P1 P4
  by_cases hc1 : c5 = m
  · have TL : Hid (∀ W, Piece w5.heap.size W (.slice (some ⟨b5, 0, none⟩) f0.length c5) f0 → Piece w5.heap.size W (.slice (some ⟨b5, 0, none⟩) L 0) (f0.drop m)) :=
      hid fun W hW => piece_tail hW (by have := HFL.out; omega) (by simp [hc1]) (by have := HFL.out; omega) (by omega)
    go_wp2_with fail
    have j1 : (0 : Int) ≤ (m : Int) := by omega
    have j2 : (m : Int) ≤ (m : Int) + (L : Int) := by omega
    have j3 : (m : Int) ≤ ((m + L : Nat) : Int) := by omega
    go_region_held3 (fun _ => True) (trivial) (first
      | (go_at_call 18; refine (flatten_at P7.out hsz6 (by exact (below_drewN (Below.refl _ _) _).drew) (by rw [F2.out.2.1]; omega) F2.out.2.2.1).mono ?_; rintro e w9 ⟨u9, rfl, hp9, hb9⟩; have P9 := hid hp9; have B9 := hid hb9; clear hp9 hb9)
      | (go_at_call 22; refine (equal_at (N := w9.heap.size) (w := w9) (bs := f0.drop m) (by rw [← HF0.out, ← F2.out.2.2.2]; exact P9.out) (((TL.out _ (P6.out.below ((below_drewN (Below.refl _ _) n7).drew.trans (B9.out.mono (by rw [hs56]; exact Nat.le_refl _))))).mono (by rw [hs56]; exact B9.out.size))) (by exact Below.refl _ _) (by rw [← HF0.out, ← F2.out.2.2.2]; exact HLE.out)).mono ?_; rintro e w10 ⟨rfl, n10, rfl⟩))
    go_wp2_with fail
    go_ret
    exact ⟨rfl, bdraw (bnext (bdraw BE.out _) B9.out) _⟩
  · have TL : Hid (∀ W, Piece w5.heap.size W (.slice (some ⟨b5, 0, none⟩) f0.length c5) f0 → Piece w5.heap.size W (.slice (some ⟨b5, m, none⟩) L (c5 - m)) (f0.drop m)) :=
      hid fun W hW => piece_tail hW (by have := HFL.out; omega) (by simp [hc1]) (by have := HFL.out; omega) (by omega)
    go_wp2_with fail
    have j1 : (0 : Int) ≤ (m : Int) := by omega
    have j2 : (m : Int) ≤ (m : Int) + (L : Int) := by omega
    have j3 : (m : Int) ≤ ((m + L : Nat) : Int) := by omega
    go_region_held3 (fun _ => True) (trivial) (first
      | (go_at_call 18; refine (flatten_at P7.out hsz6 (by exact (below_drewN (Below.refl _ _) _).drew) (by rw [F2.out.2.1]; omega) F2.out.2.2.1).mono ?_; rintro e w9 ⟨u9, rfl, hp9, hb9⟩; have P9 := hid hp9; have B9 := hid hb9; clear hp9 hb9)
      | (go_at_call 22; refine (equal_at (N := w9.heap.size) (w := w9) (bs := f0.drop m) (by rw [← HF0.out, ← F2.out.2.2.2]; exact P9.out) (((TL.out _ (P6.out.below ((below_drewN (Below.refl _ _) n7).drew.trans (B9.out.mono (by rw [hs56]; exact Nat.le_refl _))))).mono (by rw [hs56]; exact B9.out.size))) (by exact Below.refl _ _) (by rw [← HF0.out, ← F2.out.2.2.2]; exact HLE.out)).mono ?_; rintro e w10 ⟨rfl, n10, rfl⟩))
    go_wp2_with fail
    go_ret
    exact ⟨rfl, bdraw (bnext (bdraw BE.out _) B9.out) _⟩

end Go.Proofs.Qxb6002688a
