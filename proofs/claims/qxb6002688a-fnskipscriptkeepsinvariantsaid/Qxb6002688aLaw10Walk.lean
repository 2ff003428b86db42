/-
  THE LAW FnSkipScriptKeepsInvariant, WALKED.
-/
import Derived.Test.Qxb6002688aLaw10Kit
namespace Go.Proofs.Qxb6002688a
open Go.RowKit

set_option maxRecDepth 100000 in
set_option maxHeartbeats 8000000 in
theorem law10_walk {N : Nat} {w : World} {v : Value} {ls : List (List Int)} (h : Pieces N w v ls) (hN : N ≤ w.heap.size) {sa : Option Addr} {n sc : Nat} {ss : List Int} (hst : Steps w sa n sc ss) :
    Calls Try.prog 10 #[v, .slice sa n sc] w fun e w' => e = .returned (.bool true) ∧ Below w.heap.size w w' := by
  have H := hid h
  have HST := hid hst
  obtain ⟨ao, cap, rfl, _⟩ := h
  clear hst
  go_enter Try.func10, Try.ntmps10
  go_wp2_with fail
  refine (bytes27_any H.out sa n sc).mono ?_
  rintro e w ⟨b, rfl, rfl⟩
  cases b
  · go_wp2_with fail
    go_ret
    exact ⟨rfl, Below.refl _ _⟩
  by_cases h64 : 64 < n
  · have h64' : (64 : Int) < (n : Int) := by omega
    go_wp2_with fail
    go_ret
    exact ⟨rfl, Below.refl _ _⟩
  have h64d : decide ((64 : Int) < (n : Int)) = false := by simp; omega
  go_wp2_with fail
  refine (fits_any H.out).mono ?_
  rintro e w ⟨b, rfl, rfl, hfit⟩
  cases b
  · go_wp2_with fail
    go_ret
    exact ⟨rfl, Below.refl _ _⟩
  have hfit' := hfit rfl
  clear hfit
  have ht : tot ls ≤ 1048576 := by omega
  have hn : ls.length ≤ 65536 := by omega
  clear hfit'
  go_wp2_with fail
  refine (total_any H.out ht (by omega)).mono ?_
  rintro e w ⟨rfl, rfl⟩
  by_cases hsum : 1048576 < 24 * ls.length + tot ls + 2 * n
  · have hsum' : (1048576 : Int) < 24 * (ls.length : Int) + (tot ls : Int) + 2 * (n : Int) := by omega
    go_wp2_with fail
    go_ret
    exact ⟨rfl, Below.refl _ _⟩
  have hsum' : ¬ (1048576 : Int) < 24 * (ls.length : Int) + (tot ls : Int) + 2 * (n : Int) := by omega
  have hsumd : decide ((1048576 : Int) < 24 * (ls.length : Int) + (tot ls : Int) + 2 * (n : Int)) = false := by simp; omega
  go_wp2_with fail
  refine (total_any H.out ht (by omega)).mono ?_
  rintro e w ⟨rfl, rfl⟩
  by_cases h1 : tot ls < 1
  · have h1' : (tot ls : Int) < 1 := by omega
    go_wp2_with fail
    go_ret
    exact ⟨rfl, Below.refl _ _⟩
  have h1d : decide ((tot ls : Int) < 1) = false := by simp; omega
  have h1' : ¬ (tot ls : Int) < 1 := by omega
  obtain ⟨TT, hTT⟩ : ∃ TT, tot ls = TT := ⟨_, rfl⟩
  rw [hTT] at ht hsum hsum' hsumd h1 h1d h1' ⊢
  have HTT := hid hTT; clear hTT
  go_wp2_with fail
  refine (clone_any H.out hN (by rw [HTT.out]; exact ht) (by omega)).mono ?_
  rintro e w1 ⟨v1, rfl, hp1, hb1⟩
  have P1 := hid hp1; have B1 := hid hb1
  have HST1 := hid (HST.out.below hb1)
  clear hp1 hb1 H HST
  have h64n : n ≤ 64 := by omega
  go_wp2_with (first
    | (refine wpList_append_steps rfl (.tmp 50) rfl sa n sc ss rfl HST1.out h64n ?_; intro sa2 sc2 w2 hcp hb2; have CP := hid hcp; have B2 := hid hb2; clear hcp hb2))
  refine (flatten_fresh (P1.out.below B2.out (Nat.le_refl _)) B2.out.size (by rw [HTT.out]; exact ht) (by omega)).mono ?_
  obtain ⟨fl, hfl⟩ : ∃ fl, ls.flatten = fl := ⟨_, rfl⟩
  have hfT : fl.length = TT := by rw [← hfl, ← tot_flatten, HTT.out]
  rw [hfl]
  have HFL := hid hfl; clear hfl
  rintro e w3 ⟨b3, c3, rfl, hp3, hb3, _, hc3⟩
  have P3 := hid hp3; have B3 := hid hb3
  rw [hfT] at hc3 ⊢
  have HFT := hid hfT
  clear hp3 hb3 hfT
  have S13 : w1.heap.size ≤ w3.heap.size := Nat.le_trans B2.out.size B3.out.size
  go_wp2_with fail
  refine (znew_any (P1.out.below (bnext B2.out B3.out) (Nat.le_refl _)) S13 (by rw [HTT.out]; exact ht) (by rw [HTT.out]; omega) (by omega) false).mono ?_
  rw [HTT.out]
  rintro e w4 ⟨r, g, rfl, hr, hb4, hnr, hng⟩
  have ST := hid (show SI w1.heap.size w3.heap.size w3 r g fl w4 from by rw [← HFL.out]; exact SI.start hr hb4 HTT.out (by omega) (by omega))
  have NRG := hid (And.intro hnr hng)
  clear hr hb4 hnr hng
  go_wp2_with fail
  go_loopw [58] (fun i wr => ∃ k : Nat, k ≤ n ∧ i = .int .i64 k ∧ Hid (SI w1.heap.size w3.heap.size w3 r g fl wr)) (fun i _ => n - (intOf i).toNat)
  case atStart => exact ⟨0, by omega, rfl, ST⟩
  case round =>
    clear ST
    obtain ⟨k, hk, rfl, F⟩ := hrel
    have k0 : (0 : Int) ≤ (k : Int) := by omega
    have BW := hid (show Below w.heap.size w w3 from bnext (bnext B1.out B2.out) B3.out)
    by_cases hlt : k < n
    · have k1 : (k : Int) < (n : Int) := by omega
      obtain ⟨l0, off, L, hrd, hfu, htl, hll, hoff, hfl0, hbw⟩ := F.out
      have CPr := CP.out.below (B3.out.trans (hbw.mono B3.out.size))
      obtain ⟨sao, sac, hse, hss⟩ := CPr
      injection hse with hse1 hse2 hse3
      obtain ⟨x, hx⟩ : ∃ x, ss[k]? = some x := ⟨_, List.getElem?_eq_getElem (by omega)⟩
      obtain ⟨gs, hgs, _, hcs⟩ := hss (by intro e; rw [e] at hx; simp at hx)
      have hxb := HST1.out.2.2.1 x (List.mem_of_getElem? hx)
      obtain ⟨hx0, hx1⟩ := hxb
      have hcell := hcs k x hx
      obtain ⟨X, rfl⟩ := Int.eq_ofNat_of_zero_le hx0
      have hX : X ≤ 65535 := by omega
      rw [hgs] at hse1
      subst hse1
      have G := hid (And.intro hrd (And.intro hfu (And.intro htl (And.intro hll (And.intro hoff (And.intro hfl0 hbw))))))
      have hoT : off + L ≤ TT ∧ TT ≤ off + L := by have := HFT.out; omega
      obtain ⟨hoT1, hoT2⟩ := hoT
      clear hrd hfu htl hll hfl0 hbw hse2 hse3 hss hcs hx hgs F hoff
      go_wp2_with fail
      refine (state_any G.out.1).mono ?_
      rintro e w5 ⟨v5, rfl, hp5, n5, rfl⟩
      clear hp5
      by_cases hXL : L < X
      · have hXL' : (L : Int) < (X : Int) := by omega
        go_wp2_with fail
        refine (zskip_any (G.out.1.below (below_drewN (Below.refl _ _) n5)) G.out.2.1 L (by rw [G.out.2.2.1]; omega) (by rw [G.out.2.2.1]; exact Nat.le_refl _) (by omega) (by omega)).mono ?_
        rw [show L - L = 0 by omega]
        rintro e w6 ⟨rfl, hr6, ho6⟩
        have F2 := hid (skip_facts l0 L 0 G.out.2.1 (by rw [G.out.2.2.1]; rfl) G.out.2.2.2.1)
        have R6 := hid hr6; have O6 := hid ho6
        have B6 := hid (show Below w3.heap.size w3 w6 from (below_drewN G.out.2.2.2.2.2.2 n5).trans (ho6.below NRG.out.1 NRG.out.2))
        have E6 := hid (show (dropB L l0).flatten = fl.drop (off + L) by rw [F2.out.2.2.2, G.out.2.2.2.2.2.1, List.drop_drop])
        have hsz6 : w1.heap.size ≤ w6.heap.size := Nat.le_trans S13 B6.out.size
        clear hr6 ho6
        generalize dropB L l0 = l2 at *
        go_wp2_with fail
        refine (state_any R6.out).mono ?_
        rintro e w7 ⟨v7, rfl, hp7, n7, rfl⟩
        have P7 := hid hp7; clear hp7
        have e1 : ((off : Int) + (L : Int) != (TT : Int)) = false := by rw [bne_eq_false_iff_eq]; omega
        go_wp2_with fail
        refine (total_any (P7.out.drawn hsz6 n7) (by rw [F2.out.2.1]; omega) F2.out.2.2.1).mono ?_
        rw [F2.out.2.1]
        rintro e w8 ⟨rfl, rfl⟩
        go_wp2_with fail
        refine (noEmpty_any (P7.out.drawn hsz6 n7) F2.out.1 F2.out.2.2.1).mono ?_
        rintro e w8 ⟨rfl, rfl⟩
        have d1 : decide ((off : Int) + (L : Int) < 0) = false := by simp; omega
        have d2 : decide ((TT : Int) < (off : Int) + (L : Int)) = false := by simp; omega
        have j1 : (0 : Int) ≤ (off : Int) + (L : Int) := by omega
        have j2 : (off : Int) + (L : Int) ≤ (TT : Int) := by omega
        have HLE := hid (show (fl.drop (off + L)).length ≤ 1048576 by rw [List.length_drop, HFT.out]; omega)
        have P36 := hid (P3.out.below B6.out)
        by_cases hc : c3 = off + L
        · have TL := hid (show Piece w3.heap.size w6 (.slice (some ⟨b3, 0, none⟩) (TT - (off + L)) 0) (fl.drop (off + L)) from piece_tail P36.out (by rw [HFT.out]; omega) (by simp [hc]) (by rw [HFT.out]) (by omega))
          have hc2 : (c3 = ((off : Int) + (L : Int)).toNat) = True := eq_true (by omega)
          have hc4 : c3 - ((off : Int) + (L : Int)).toNat = 0 := by omega
          have HC := hid hc; clear hc
          go_wp2_with fail
          go_region_held3 (fun _ => True) (trivial) (first
            | (go_at_call 18; refine (flatten_at P7.out hsz6 (by exact (below_drewN (Below.refl _ _) _).drew) (by rw [F2.out.2.1]; omega) F2.out.2.2.1).mono ?_; rintro e w9 ⟨u9, rfl, hp9, hb9⟩; have P9 := hid hp9; have B9 := hid hb9; clear hp9 hb9)
            | (go_at_call 22; refine (equal_at (N := w9.heap.size) (w := w9) (bs := fl.drop (off + L)) (by rw [← E6.out]; exact P9.out) ((TL.out.below ((below_drewN (Below.refl _ _) n7).drew.trans (B9.out.mono B6.out.size))).mono (Nat.le_trans B6.out.size B9.out.size)) (by exact Below.refl _ _) HLE.out).mono ?_; rintro e w10 ⟨rfl, n10, rfl⟩))
          go_wp2_with fail
          go_roundw
          case rel => exact ⟨k + 1, by omega, by go_num, hid ⟨l2, off + L, 0, (R6.out.below (bnext (below_drewN (Below.refl _ _) _) B9.out)).below (below_drewN (Below.refl _ _) _), F2.out.1, F2.out.2.1, F2.out.2.2.1, by have := HFT.out; omega, E6.out, below_drewN ((below_drewN B6.out _).trans (B9.out.mono B6.out.size)) _⟩⟩
          case measure => simp [intOf]; omega
        · have TL := hid (show Piece w3.heap.size w6 (.slice (some ⟨b3, off + L, none⟩) (TT - (off + L)) (c3 - (off + L))) (fl.drop (off + L)) from piece_tail P36.out (by rw [HFT.out]; omega) (by simp [hc]) (by rw [HFT.out]) (by omega))
          go_wp2_with fail
          go_region_held3 (fun _ => True) (trivial) (first
            | (go_at_call 18; refine (flatten_at P7.out hsz6 (by exact (below_drewN (Below.refl _ _) _).drew) (by rw [F2.out.2.1]; omega) F2.out.2.2.1).mono ?_; rintro e w9 ⟨u9, rfl, hp9, hb9⟩; have P9 := hid hp9; have B9 := hid hb9; clear hp9 hb9)
            | (go_at_call 22; refine (equal_at (N := w9.heap.size) (w := w9) (bs := fl.drop (off + L)) (by rw [← E6.out]; exact P9.out) ((TL.out.below ((below_drewN (Below.refl _ _) n7).drew.trans (B9.out.mono B6.out.size))).mono (Nat.le_trans B6.out.size B9.out.size)) (by exact Below.refl _ _) HLE.out).mono ?_; rintro e w10 ⟨rfl, n10, rfl⟩))
          go_wp2_with fail
          go_roundw
          case rel => exact ⟨k + 1, by omega, by go_num, hid ⟨l2, off + L, 0, (R6.out.below (bnext (below_drewN (Below.refl _ _) _) B9.out)).below (below_drewN (Below.refl _ _) _), F2.out.1, F2.out.2.1, F2.out.2.2.1, by have := HFT.out; omega, E6.out, below_drewN ((below_drewN B6.out _).trans (B9.out.mono B6.out.size)) _⟩⟩
          case measure => simp [intOf]; omega
      · obtain ⟨M, rfl⟩ : ∃ M, L = X + M := ⟨L - X, by omega⟩
        have hXL' : ¬ ((X + M : Nat) : Int) < (X : Int) := by omega
        clear hXL
        go_wp2_with fail
        refine (zskip_any (G.out.1.below (below_drewN (Below.refl _ _) n5)) G.out.2.1 X (by rw [G.out.2.2.1]; omega) (by rw [G.out.2.2.1]; exact Nat.le_refl _) (by omega) (by omega)).mono ?_
        rw [show X + M - X = M by omega]
        rintro e w6 ⟨rfl, hr6, ho6⟩
        have F2 := hid (skip_facts l0 X M G.out.2.1 (by rw [G.out.2.2.1]) G.out.2.2.2.1)
        have R6 := hid hr6; have O6 := hid ho6
        have B6 := hid (show Below w3.heap.size w3 w6 from (below_drewN G.out.2.2.2.2.2.2 n5).trans (ho6.below NRG.out.1 NRG.out.2))
        have E6 := hid (show (dropB X l0).flatten = fl.drop (off + X) by rw [F2.out.2.2.2, G.out.2.2.2.2.2.1, List.drop_drop])
        have hsz6 : w1.heap.size ≤ w6.heap.size := Nat.le_trans S13 B6.out.size
        clear hr6 ho6
        generalize dropB X l0 = l2 at *
        go_wp2_with fail
        refine (state_any R6.out).mono ?_
        rintro e w7 ⟨v7, rfl, hp7, n7, rfl⟩
        have P7 := hid hp7; clear hp7
        have e1 : ((off : Int) + (X : Int) + (M : Int) != (TT : Int)) = false := by rw [bne_eq_false_iff_eq]; omega
        go_wp2_with fail
        refine (total_any (P7.out.drawn hsz6 n7) (by rw [F2.out.2.1]; omega) F2.out.2.2.1).mono ?_
        rw [F2.out.2.1]
        rintro e w8 ⟨rfl, rfl⟩
        go_wp2_with fail
        refine (noEmpty_any (P7.out.drawn hsz6 n7) F2.out.1 F2.out.2.2.1).mono ?_
        rintro e w8 ⟨rfl, rfl⟩
        have d1 : decide ((off : Int) + (X : Int) < 0) = false := by simp; omega
        have d2 : decide ((TT : Int) < (off : Int) + (X : Int)) = false := by simp; omega
        have j1 : (0 : Int) ≤ (off : Int) + (X : Int) := by omega
        have j2 : (off : Int) + (X : Int) ≤ (TT : Int) := by omega
        have HLE := hid (show (fl.drop (off + X)).length ≤ 1048576 by rw [List.length_drop, HFT.out]; omega)
        have P36 := hid (P3.out.below B6.out)
        by_cases hc : c3 = off + X
        · have TL := hid (show Piece w3.heap.size w6 (.slice (some ⟨b3, 0, none⟩) (TT - (off + X)) 0) (fl.drop (off + X)) from piece_tail P36.out (by rw [HFT.out]; omega) (by simp [hc]) (by rw [HFT.out]) (by omega))
          have hc2 : (c3 = ((off : Int) + (X : Int)).toNat) = True := eq_true (by omega)
          have hc4 : c3 - ((off : Int) + (X : Int)).toNat = 0 := by omega
          have HC := hid hc; clear hc
          go_wp2_with fail
          go_region_held3 (fun _ => True) (trivial) (first
            | (go_at_call 18; refine (flatten_at P7.out hsz6 (by exact (below_drewN (Below.refl _ _) _).drew) (by rw [F2.out.2.1]; omega) F2.out.2.2.1).mono ?_; rintro e w9 ⟨u9, rfl, hp9, hb9⟩; have P9 := hid hp9; have B9 := hid hb9; clear hp9 hb9)
            | (go_at_call 22; refine (equal_at (N := w9.heap.size) (w := w9) (bs := fl.drop (off + X)) (by rw [← E6.out]; exact P9.out) ((TL.out.below ((below_drewN (Below.refl _ _) n7).drew.trans (B9.out.mono B6.out.size))).mono (Nat.le_trans B6.out.size B9.out.size)) (by exact Below.refl _ _) HLE.out).mono ?_; rintro e w10 ⟨rfl, n10, rfl⟩))
          go_wp2_with fail
          go_roundw
          case rel => exact ⟨k + 1, by omega, by go_num, hid ⟨l2, off + X, M, (R6.out.below (bnext (below_drewN (Below.refl _ _) _) B9.out)).below (below_drewN (Below.refl _ _) _), F2.out.1, F2.out.2.1, F2.out.2.2.1, by have := HFT.out; omega, E6.out, below_drewN ((below_drewN B6.out _).trans (B9.out.mono B6.out.size)) _⟩⟩
          case measure => simp [intOf]; omega
        · have TL := hid (show Piece w3.heap.size w6 (.slice (some ⟨b3, off + X, none⟩) (TT - (off + X)) (c3 - (off + X))) (fl.drop (off + X)) from piece_tail P36.out (by rw [HFT.out]; omega) (by simp [hc]) (by rw [HFT.out]) (by omega))
          go_wp2_with fail
          go_region_held3 (fun _ => True) (trivial) (first
            | (go_at_call 18; refine (flatten_at P7.out hsz6 (by exact (below_drewN (Below.refl _ _) _).drew) (by rw [F2.out.2.1]; omega) F2.out.2.2.1).mono ?_; rintro e w9 ⟨u9, rfl, hp9, hb9⟩; have P9 := hid hp9; have B9 := hid hb9; clear hp9 hb9)
            | (go_at_call 22; refine (equal_at (N := w9.heap.size) (w := w9) (bs := fl.drop (off + X)) (by rw [← E6.out]; exact P9.out) ((TL.out.below ((below_drewN (Below.refl _ _) n7).drew.trans (B9.out.mono B6.out.size))).mono (Nat.le_trans B6.out.size B9.out.size)) (by exact Below.refl _ _) HLE.out).mono ?_; rintro e w10 ⟨rfl, n10, rfl⟩))
          go_wp2_with fail
          go_roundw
          case rel => exact ⟨k + 1, by omega, by go_num, hid ⟨l2, off + X, M, (R6.out.below (bnext (below_drewN (Below.refl _ _) _) B9.out)).below (below_drewN (Below.refl _ _) _), F2.out.1, F2.out.2.1, F2.out.2.2.1, by have := HFT.out; omega, E6.out, below_drewN ((below_drewN B6.out _).trans (B9.out.mono B6.out.size)) _⟩⟩
          case measure => simp [intOf]; omega
    · go_wp2_with fail
      obtain ⟨_, _, _, _, _, _, _, _, _, hbw⟩ := F.out
      go_ret
      exact ⟨rfl, BW.out.trans (hbw.mono BW.out.size)⟩

end Go.Proofs.Qxb6002688a
