/-
  THE LAW FnNewMessageReaderIgnoresPiecing, WALKED.
-/
import Derived.Test.Qxb6002688aLawKit
namespace Go.Proofs.Qxb6002688a
open Go.RowKit

theorem one_piece {N : Nat} {w : World} {u : Value} {bs : List Int} (h : Piece N w u bs) (hN : N ≤ w.heap.size) : Pieces N (w.alloc (.cells #[u] 38)) (.slice (some ⟨w.heap.size, 0, none⟩) 1 1) [bs] := by
  refine ⟨_, _, rfl, Nat.le_refl _, by simp, fun _ => ⟨w.heap.size, 0, rfl, fun i bs' hi => ?_⟩⟩
  have h0 : i = 0 := by have := (List.getElem?_eq_some_iff.1 hi).1; simp at this; omega
  subst h0
  have e : bs = bs' := by simpa using hi
  subst e
  refine ⟨u, ?_, h.below ((Below.refl _ _).alloc hN _)⟩
  rw [cell_of_row _ _ _ _ _ _ (heap_alloc_new w _)]; rfl

set_option maxHeartbeats 2000000 in
theorem law7_walk {N : Nat} {w : World} {v : Value} {ls : List (List Int)} (h : Pieces N w v ls) (hN : N ≤ w.heap.size) (ids : Bool) :
    Calls Try.prog 7 #[v, .bool ids] w fun e w' => e = .returned (.bool true) ∧ Below w.heap.size w w' := by
  have H := hid h; clear h
  go_enter Try.func7, Try.ntmps7
  go_wp2_with fail
  refine (bytes23_any H.out ids).mono ?_
  rintro e w ⟨b, rfl, rfl⟩
  cases b
  · go_wp2_with fail
    go_ret
    exact ⟨rfl, Below.refl _ _⟩
  go_wp2_with fail
  refine (fits_any H.out).mono ?_
  rintro e w ⟨b, rfl, rfl, hfit⟩
  cases b
  · go_wp2_with fail
    go_ret
    exact ⟨rfl, Below.refl _ _⟩
  have hfit' := hfit rfl
  clear hfit
  have ht : tot ls ≤ 1048576 := by omega
  have hn : ls.length ≤ 1048576 := by omega
  clear hfit'
  go_wp2_with fail
  refine (total_any H.out ht hn).mono ?_
  rintro e w ⟨rfl, rfl⟩
  by_cases h1 : tot ls < 1
  · have h1' : (tot ls : Int) < 1 := by omega
    go_wp2_with fail
    go_ret
    exact ⟨rfl, Below.refl _ _⟩
  obtain ⟨T, hT⟩ : ∃ T, tot ls = T + 1 := ⟨tot ls - 1, by omega⟩
  rw [hT] at ht ⊢
  have HT := hid hT; clear hT h1
  have h1d : decide (((T + 1 : Nat) : Int) < 1) = false := by simp; omega
  go_wp2_with fail
  refine (clone_any H.out hN (by rw [HT.out]; exact ht) hn).mono ?_
  rintro e w1 ⟨v1, rfl, hp1, hb1⟩
  have P1 := hid hp1; have B1 := hid hb1
  clear hp1 hb1 H
  go_wp2_with fail
  refine (flatten_any P1.out (Nat.le_refl _) (by rw [HT.out]; exact ht) hn).mono ?_
  rintro e w2 ⟨u, rfl, hp2, hb2⟩
  obtain ⟨fl, hfl⟩ : ∃ fl, ls.flatten = fl := ⟨_, rfl⟩
  rw [hfl] at hp2
  have hfT : fl.length = T + 1 := by rw [← hfl, ← tot_flatten, HT.out]
  have HFL := hid hfl; have HFT := hid hfT; clear hfl
  have B2 := hid hb2
  have P3 := hid (one_piece hp2 (Nat.le_refl _))
  obtain ⟨b, o, c, rfl, hc⟩ := hp2.open (by omega)
  clear hp2 hb2 hc hfT
  obtain ⟨W, hW⟩ : ∃ W, w2.alloc (.cells #[.slice (some ⟨b, o, none⟩) fl.length c] 38) = W := ⟨_, rfl⟩
  have B3 := hid (show Below w2.heap.size w2 W from by rw [← hW]; exact (Below.refl _ _).alloc (Nat.le_refl _) _)
  rw [hW] at P3
  have HW := hid hW; clear hW
  go_wp2_with fail
  rw [HW.out]
  have hsz1 : w1.heap.size ≤ W.heap.size := Nat.le_trans B2.out.size B3.out.size
  have F1 := hid (new_facts ls T HT.out hn)
  have hT2 : tot [fl] = T + 1 := by simp [tot]; exact HFT.out
  have F2 := hid (new_facts [fl] T hT2 (by simp))
  have HT2 := hid hT2; clear hT2 HW
  refine (znew_any (P1.out.below (bnext B2.out B3.out) (Nat.le_refl _)) hsz1 (by rw [HT.out]; exact ht) (by rw [HT.out]; omega) hn ids).mono ?_
  rw [HT.out, show T + 1 - 1 = T by omega]
  rintro e w4 ⟨r1, g1, rfl, hr, hb4, _, _⟩
  have R1 := hid hr; have B4 := hid hb4
  clear hr hb4
  go_wp2_with fail
  refine (znew_any (P3.out.below B4.out B3.out.size) (Nat.le_trans B3.out.size B4.out.size) (by rw [HT2.out]; exact ht) (by rw [HT2.out]; omega) (by simp) ids).mono ?_
  rw [HT2.out, show T + 1 - 1 = T by omega]
  rintro e w5 ⟨r2, g2, rfl, hr, hb5, _, _⟩
  have R2 := hid hr; have B5 := hid hb5
  clear hr hb5
  generalize dropB 1 (packed ls) = l1 at *
  generalize dropB 1 (packed [fl]) = l2 at *
  have S1 : w1.heap.size ≤ w5.heap.size := Nat.le_trans hsz1 (Nat.le_trans B4.out.size B5.out.size)
  have S2 : w2.heap.size ≤ w5.heap.size := Nat.le_trans B3.out.size (Nat.le_trans B4.out.size B5.out.size)
  go_wp2_with fail
  refine (state_any (R1.out.below B5.out)).mono ?_
  rintro e w6 ⟨v6, rfl, hp6, n6, rfl⟩
  have P6 := hid hp6; clear hp6
  go_wp2_with fail
  refine (state_any (R2.out.below (below_drewN (Below.refl _ _) n6))).mono ?_
  rintro e w7 ⟨v7, rfl, hp7, n7, rfl⟩
  have P7 := hid hp7; clear hp7
  go_wp2_with fail
  refine (flatten_at P6.out S1 (by exact below_drewN (Below.refl _ _) _) (by rw [F1.out.2.1]; omega) F1.out.2.2.1).mono ?_
  rintro e w8 ⟨u8, rfl, hp8, hb8⟩
  have P8 := hid hp8; have B8 := hid hb8
  clear hp8 hb8
  go_wp2_with fail
  refine (flatten_at P7.out S2 (by exact bnext (bsame w5 n6 (n6 + n7) _) B8.out) (by rw [F2.out.2.1]; omega) F2.out.2.2.1).mono ?_
  rintro e w9 ⟨u9, rfl, hp9, hb9⟩
  have P9 := hid hp9; have B9 := hid hb9
  clear hp9 hb9
  go_wp2_with fail
  have E1 : l1.flatten = fl.drop 1 := by rw [F1.out.2.2.2, HFL.out]
  have E2 : l2.flatten = fl.drop 1 := by rw [F2.out.2.2.2]; simp
  have Q8 : Piece w9.heap.size w9 u8 (fl.drop 1) := by rw [← E1]; exact (P8.out.below B9.out).mono B9.out.size
  have Q9 : Piece w9.heap.size w9 u9 (fl.drop 1) := by rw [← E2]; exact P9.out
  refine (equal_any Q8 Q9 (by rw [List.length_drop, HFT.out]; omega)).mono ?_
  rintro e w10 ⟨rfl, n10, rfl⟩
  clear E1 E2 Q8 Q9
  go_wp2_with fail
  go_ret
  exact ⟨rfl, bdraw (bnext (bnext (bdraw (bnext (bnext (bnext (bnext B1.out B2.out) B3.out) B4.out) B5.out) _) B8.out) B9.out) _⟩

end Go.Proofs.Qxb6002688a
