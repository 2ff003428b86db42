/-
  THE LAW FnNewMessageReaderSkipsVersionByte, WALKED.
-/
import Derived.Test.Qxb6002688aLawKit
namespace Go.Proofs.Qxb6002688a
open Go.RowKit

set_option maxHeartbeats 2000000 in
theorem law6_walk {N : Nat} {w : World} {v : Value} {ls : List (List Int)} (h : Pieces N w v ls) (hN : N ≤ w.heap.size) (ids : Bool) :
    Calls Try.prog 6 #[v, .bool ids] w fun e w' => e = .returned (.bool true) ∧ Below w.heap.size w w' := by
  have H := hid h; clear h
  go_enter Try.func6, Try.ntmps6
  go_wp2_with fail
  refine (bytes14_any H.out ids).mono ?_
  rintro e w ⟨b, rfl, rfl⟩
  cases b
  · go_wp2_with fail
    go_ret
    exact ⟨rfl, Below.refl _ _⟩
  go_wp2_with fail
  refine (fits_any H.out).mono ?_
  rintro e w ⟨b, rfl, rfl, hfit⟩
  cases b
  · go_wp2_with fail
    go_ret
    exact ⟨rfl, Below.refl _ _⟩
  have hfit' := hfit rfl
  clear hfit
  have ht : tot ls ≤ 1048576 := by omega
  have hn : ls.length ≤ 1048576 := by omega
  clear hfit'
  go_wp2_with fail
  refine (total_any H.out ht hn).mono ?_
  rintro e w ⟨rfl, rfl⟩
  by_cases h1 : tot ls < 1
  · have h1' : (tot ls : Int) < 1 := by omega
    go_wp2_with fail
    go_ret
    exact ⟨rfl, Below.refl _ _⟩
  obtain ⟨T, hT⟩ : ∃ T, tot ls = T + 1 := ⟨tot ls - 1, by omega⟩
  rw [hT] at ht ⊢
  have HT := hid hT; clear hT h1
  have h1d : decide (((T + 1 : Nat) : Int) < 1) = false := by simp; omega
  go_wp2_with fail
  refine (clone_any H.out hN (by rw [HT.out]; exact ht) hn).mono ?_
  rintro e w1 ⟨v1, rfl, hp1, hb1⟩
  have P1 := hid hp1; have B1 := hid hb1
  clear hp1 hb1 H
  go_wp2_with fail
  refine (flatten_any P1.out (Nat.le_refl _) (by rw [HT.out]; exact ht) hn).mono ?_
  rintro e w2 ⟨u, rfl, hp2, hb2⟩
  have P2 := hid hp2; have B2 := hid hb2
  clear hp2 hb2
  go_wp2_with fail
  refine (znew_any (P1.out.below B2.out (Nat.le_refl _)) B2.out.size (by rw [HT.out]; exact ht) (by rw [HT.out]; omega) hn ids).mono ?_
  rw [HT.out, show T + 1 - 1 = T by omega]
  rintro e w3 ⟨r, g, rfl, hr, hb3, _, _⟩
  have R := hid hr; have B3 := hid hb3
  clear hr hb3
  go_wp2_with fail
  refine (state_any R.out).mono ?_
  rintro e w4 ⟨v4, rfl, hp4, n4, rfl⟩
  have P4 := hid hp4; clear hp4
  have e1 : (((T : Nat) : Int) != ((T + 1 : Nat) : Int) - 1) = false := by simp
  obtain ⟨q1, q2, q3, q4⟩ := new_facts ls T HT.out hn
  have Q4 := hid q4; clear q4
  generalize dropB 1 (packed ls) = ls' at *
  have Q1 := hid q1; have Q2 := hid q2; clear q1 q2
  have hsz : w1.heap.size ≤ w3.heap.size := Nat.le_trans B2.out.size B3.out.size
  go_wp2_with fail
  refine (noEmpty_any (P4.out.drawn hsz n4) Q1.out q3).mono ?_
  rintro e w5 ⟨rfl, rfl⟩
  go_wp2_with fail
  refine (total_any (P4.out.drawn hsz n4) (by rw [Q2.out]; omega) q3).mono ?_
  rw [Q2.out]
  rintro e w5 ⟨rfl, rfl⟩
  obtain ⟨b, o, c, rfl, hc⟩ := P2.out.open (by rw [← tot_flatten, HT.out]; omega)
  have hfl : ls.flatten.length = T + 1 := by rw [← tot_flatten, HT.out]
  rw [hfl]
  have j1 : (1 : Int) ≤ ((T + 1 : Nat) : Int) := by omega
  have hle : ls'.flatten.length ≤ 1048576 := by rw [← tot_flatten, Q2.out]; omega
  have BB := hid (B3.out)
  clear j1
  by_cases hc1 : c = 1
  · have TL : Hid (∀ W, Piece w2.heap.size W (.slice (some ⟨b, o, none⟩) ls.flatten.length c) ls.flatten → Piece w2.heap.size W (.slice (some ⟨b, o, none⟩) T 0) (ls.flatten.drop 1)) :=
      hid fun W hW => piece_tail hW (by omega) (by simp [hc1]) (by omega) (by omega)
    go_wp2_with fail
    have j1 : (1 : Int) ≤ (T : Int) + 1 := by omega
    go_region_held3 (fun _ => True) (trivial) (first
      | (go_at_call 18; refine (flatten_at P4.out hsz (by exact (below_drewN (Below.refl _ _) _).drew) (by rw [Q2.out]; omega) q3).mono ?_; rintro e w6 ⟨u6, rfl, hp6, hb6⟩; have P6 := hid hp6; have B6 := hid hb6; clear hp6 hb6)
      | (go_at_call 22; refine (equal_at (N := w6.heap.size) (w := w6) (bs := ls.flatten.drop 1) (by rw [← Q4.out]; exact P6.out) (((TL.out _ (P2.out.below (BB.out.trans ((below_drewN (Below.refl _ _) n4).drew.trans (B6.out.mono B3.out.size))))).mono (Nat.le_trans B3.out.size B6.out.size))) (by exact Below.refl _ _) (by rw [← Q4.out]; exact hle)).mono ?_; rintro e w7 ⟨rfl, n7, rfl⟩))
    go_wp2_with fail
    go_ret
    exact ⟨rfl, bdraw (bnext (bdraw (bnext (bnext B1.out B2.out) B3.out) _) B6.out) _⟩
  · have TL : Hid (∀ W, Piece w2.heap.size W (.slice (some ⟨b, o, none⟩) ls.flatten.length c) ls.flatten → Piece w2.heap.size W (.slice (some ⟨b, o + 1, none⟩) T (c - 1)) (ls.flatten.drop 1)) :=
      hid fun W hW => piece_tail hW (by omega) (by simp [hc1]) (by omega) (by omega)
    go_wp2_with fail
    have j1 : (1 : Int) ≤ (T : Int) + 1 := by omega
    go_region_held3 (fun _ => True) (trivial) (first
      | (go_at_call 18; refine (flatten_at P4.out hsz (by exact (below_drewN (Below.refl _ _) _).drew) (by rw [Q2.out]; omega) q3).mono ?_; rintro e w6 ⟨u6, rfl, hp6, hb6⟩; have P6 := hid hp6; have B6 := hid hb6; clear hp6 hb6)
      | (go_at_call 22; refine (equal_at (N := w6.heap.size) (w := w6) (bs := ls.flatten.drop 1) (by rw [← Q4.out]; exact P6.out) (((TL.out _ (P2.out.below (BB.out.trans ((below_drewN (Below.refl _ _) n4).drew.trans (B6.out.mono B3.out.size))))).mono (Nat.le_trans B3.out.size B6.out.size))) (by exact Below.refl _ _) (by rw [← Q4.out]; exact hle)).mono ?_; rintro e w7 ⟨rfl, n7, rfl⟩))
    go_wp2_with fail
    go_ret
    exact ⟨rfl, bdraw (bnext (bdraw (bnext (bnext B1.out B2.out) B3.out) _) B6.out) _⟩

end Go.Proofs.Qxb6002688a
