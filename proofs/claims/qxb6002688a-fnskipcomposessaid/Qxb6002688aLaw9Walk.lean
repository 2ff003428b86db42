/-
  THE LAW FnSkipComposes, WALKED.
-/
import Derived.Test.Qxb6002688aLawKit
namespace Go.Proofs.Qxb6002688a
open Go.RowKit

set_option maxHeartbeats 2000000 in
theorem law9_walk {N : Nat} {w : World} {v : Value} {ls : List (List Int)} (h : Pieces N w v ls) (hN : N ≤ w.heap.size) (m n : Int) :
    Calls Try.prog 9 #[v, .int .i64 m, .int .i64 n] w fun e w' => e = .returned (.bool true) ∧ Below w.heap.size w w' := by
  have H := hid h; clear h
  go_enter Try.func9, Try.ntmps9
  go_wp2_with fail
  refine (bytes26_any H.out m n).mono ?_
  rintro e w ⟨b, rfl, rfl⟩
  cases b
  · go_wp2_with fail
    go_ret
    exact ⟨rfl, Below.refl _ _⟩
  go_wp2_with fail
  refine (fits_any H.out).mono ?_
  rintro e w ⟨b, rfl, rfl, hfit⟩
  cases b
  · go_wp2_with fail
    go_ret
    exact ⟨rfl, Below.refl _ _⟩
  have hfit' := hfit rfl
  clear hfit
  have ht : tot ls ≤ 1048576 := by omega
  have hn : ls.length ≤ 1048576 := by omega
  clear hfit'
  go_wp2_with fail
  refine (total_any H.out ht hn).mono ?_
  rintro e w ⟨rfl, rfl⟩
  by_cases h1 : tot ls < 1
  · have h1' : (tot ls : Int) < 1 := by omega
    go_wp2_with fail
    go_ret
    exact ⟨rfl, Below.refl _ _⟩
  obtain ⟨T, hT⟩ : ∃ T, tot ls = T + 1 := ⟨tot ls - 1, by omega⟩
  rw [hT] at ht ⊢
  have HT := hid hT; clear hT h1
  have h1d : decide (((T + 1 : Nat) : Int) < 1) = false := by simp; omega
  go_wp2_with fail
  refine (clone_any H.out hN (by rw [HT.out]; exact ht) hn).mono ?_
  rintro e w1 ⟨v1, rfl, hp1, hb1⟩
  have P1 := hid hp1; have B1 := hid hb1
  clear hp1 hb1 H
  go_wp2_with fail
  refine (znew_any P1.out (Nat.le_refl _) (by rw [HT.out]; exact ht) (by rw [HT.out]; omega) hn false).mono ?_
  rw [HT.out, show T + 1 - 1 = T by omega]
  rintro e w2 ⟨r1, g1, rfl, hr, hb2, _, _⟩
  have R1 := hid hr; have B2 := hid hb2
  clear hr hb2
  go_wp2_with fail
  refine (znew_any (P1.out.below B2.out (Nat.le_refl _)) B2.out.size (by rw [HT.out]; exact ht) (by rw [HT.out]; omega) hn false).mono ?_
  rw [HT.out, show T + 1 - 1 = T by omega]
  rintro e w3 ⟨r2, g2, rfl, hr, hb3, hlr2, hlg2⟩
  have R2 := hid hr; have B3 := hid hb3
  have HL2 := hid (And.intro hlr2 hlg2)
  clear hr hb3 hlr2 hlg2
  have F1 := hid (new_facts ls T HT.out hn)
  generalize dropB 1 (packed ls) = l1 at *
  go_wp2_with fail
  refine (state_any (R1.out.below B3.out)).mono ?_
  rintro e w4 ⟨v4, rfl, hp4, n4, rfl⟩
  clear hp4
  have BE := hid (show Below w.heap.size w w3 from bnext (bnext B1.out B2.out) B3.out)
  by_cases hm0 : m < 0
  · go_wp2_with fail
    go_ret
    exact ⟨rfl, bdraw BE.out _⟩
  have hm0d : decide (m < 0) = false := by simp; omega
  by_cases hn0 : n < 0
  · go_wp2_with fail
    go_ret
    exact ⟨rfl, bdraw BE.out _⟩
  have hn0d : decide (n < 0) = false := by simp; omega
  by_cases hmb : (T : Int) < m
  · go_wp2_with fail
    go_ret
    exact ⟨rfl, bdraw BE.out _⟩
  have hmbd : decide ((T : Int) < m) = false := by simp; omega
  by_cases hnb : (T : Int) - m < n
  · go_wp2_with fail
    go_ret
    exact ⟨rfl, bdraw BE.out _⟩
  have hnbd : decide ((T : Int) - m < n) = false := by simp; omega
  obtain ⟨a, rfl⟩ := Int.eq_ofNat_of_zero_le (show 0 ≤ m by omega)
  obtain ⟨b, rfl⟩ := Int.eq_ofNat_of_zero_le (show 0 ≤ n by omega)
  obtain ⟨L, rfl⟩ : ∃ L, T = a + (b + L) := ⟨T - a - b, by omega⟩
  clear hm0 hn0 hmb hnb
  have hd1 : decide ((a : Int) + ((b : Int) + (L : Int)) + 1 < 1) = false := by simp; omega
  have hL1 := R1.out.lt
  have hL2 := HL2.out
  have A1 := hid (skip_facts l1 a (b + L) F1.out.1 F1.out.2.1 F1.out.2.2.1)
  have A2 := hid (skip_facts (dropB a l1) b L A1.out.1 A1.out.2.1 A1.out.2.2.1)
  have A3 := hid (skip_facts l1 (a + b) L F1.out.1 (by rw [F1.out.2.1]; omega) F1.out.2.2.1)
  have NE := hid (show r2 ≠ r1 ∧ r2 ≠ g1 ∧ g2 ≠ r1 ∧ g2 ≠ g1 by omega)
  have HLT := hid hL1
  clear hL1 hL2 HL2
  go_wp2_with fail
  refine (zskip_any (R1.out.below (bnext B3.out (below_drewN (Below.refl _ _) n4))) F1.out.1 a (by rw [F1.out.2.1]; omega) (by rw [F1.out.2.1]; exact Nat.le_refl _) (by omega) (by omega)).mono ?_
  rw [show a + (b + L) - a = b + L by omega]
  rintro e w5 ⟨rfl, hr5, ho5⟩
  have R5 := hid hr5; have O5 := hid ho5
  clear hr5 ho5
  go_wp2_with fail
  refine (zskip_any R5.out A1.out.1 b (by rw [A1.out.2.1]; omega) (by rw [A1.out.2.1]; exact Nat.le_refl _) (by omega) (by omega)).mono ?_
  rw [show b + L - b = L by omega]
  rintro e w6 ⟨rfl, hr6, ho6⟩
  have R6 := hid hr6; have O6 := hid ho6
  clear hr6 ho6 R5
  have R2b := hid (((R2.out.below (below_drewN (Below.refl _ _) n4)).only O5.out NE.out.1 NE.out.2.1 NE.out.2.2.1 NE.out.2.2.2 HLT.out.2.2.1 HLT.out.2.2.2.1).only O6.out NE.out.1 NE.out.2.1 NE.out.2.2.1 NE.out.2.2.2 HLT.out.2.2.1 HLT.out.2.2.2.1)
  have HL2 := hid R2.out.lt
  have BE6 := hid (show Below w.heap.size w w6 from ((bdraw BE.out n4).trans (O5.out.below (Nat.le_trans B1.out.size HLT.out.2.2.1) (Nat.le_trans B1.out.size HLT.out.2.2.2.1))).trans (O6.out.below (Nat.le_trans B1.out.size HLT.out.2.2.1) (Nat.le_trans B1.out.size HLT.out.2.2.2.1)))
  clear R1 R2 O5 O6 BE
  go_wp2_with fail
  rw [show (a : Int) + (b : Int) = ((a + b : Nat) : Int) by omega]
  refine (zskip_any R2b.out F1.out.1 (a + b) (by rw [F1.out.2.1]; omega) (by rw [F1.out.2.1]; exact Nat.le_refl _) (by omega) (by omega)).mono ?_
  rw [show a + (b + L) - (a + b) = L by omega, show 1 + (a + b) = 1 + a + b by omega]
  rintro e w7 ⟨rfl, hr7, ho7⟩
  have R7 := hid hr7
  have R8 := hid (R6.out.only ho7 (Ne.symm NE.out.1) (Ne.symm NE.out.2.2.1) (Ne.symm NE.out.2.1) (Ne.symm NE.out.2.2.2) HL2.out.2.2.1 HL2.out.2.2.2.1)
  have BE7 := hid (show Below w.heap.size w w7 from BE6.out.trans (ho7.below (Nat.le_trans B1.out.size HL2.out.2.2.1) (Nat.le_trans B1.out.size HL2.out.2.2.2.1)))
  have hsz : w1.heap.size ≤ w7.heap.size := by have h1 := R7.out.lt; omega
  clear hr7 ho7 R6 R2b BE6
  have E2 := hid (show (dropB b (dropB a l1)).flatten = (dropB (a + b) l1).flatten by rw [A2.out.2.2.2, A1.out.2.2.2, A3.out.2.2.2, List.drop_drop])
  have hle : (dropB (a + b) l1).flatten.length ≤ 1048576 := by rw [← tot_flatten, A3.out.2.1]; omega
  have HLE := hid hle
  clear hle
  generalize dropB b (dropB a l1) = x1 at *
  generalize dropB (a + b) l1 = x2 at *
  go_wp2_with fail
  refine (state_any R8.out).mono ?_
  rintro e w8 ⟨v8, rfl, hp8, n8, rfl⟩
  have P8 := hid hp8; clear hp8
  go_wp2_with fail
  refine (state_any (R7.out.below (below_drewN (Below.refl _ _) n8))).mono ?_
  rintro e w9 ⟨v9, rfl, hp9, n9, rfl⟩
  have P9 := hid hp9; clear hp9
  go_wp2_with fail
  refine (flatten_at P8.out hsz (by exact below_drewN (Below.refl _ _) _) (by rw [A2.out.2.1]; omega) A2.out.2.2.1).mono ?_
  rintro e w10 ⟨u10, rfl, hp10, hb10⟩
  have P10 := hid hp10; have B10 := hid hb10
  clear hp10 hb10
  go_wp2_with fail
  refine (flatten_at P9.out hsz (by exact bnext (bsame w7 n8 (n8 + n9) _) B10.out) (by rw [A3.out.2.1]; omega) A3.out.2.2.1).mono ?_
  rintro e w11 ⟨u11, rfl, hp11, hb11⟩
  have P11 := hid hp11; have B11 := hid hb11
  clear hp11 hb11
  go_wp2_with fail
  have Q10 : Piece w11.heap.size w11 u10 x2.flatten := by rw [← E2.out]; exact (P10.out.below B11.out).mono B11.out.size
  refine (equal_any Q10 P11.out HLE.out).mono ?_
  rintro e w12 ⟨rfl, n12, rfl⟩
  clear Q10
  go_wp2_with fail
  go_ret
  exact ⟨rfl, bdraw (bnext (bnext (bdraw BE7.out _) B10.out) B11.out) _⟩

end Go.Proofs.Qxb6002688a
