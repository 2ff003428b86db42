/-
  PLAIN LAWS: the bound is the shortest.
-/
import Derived.Test.Qxb6002688aPlainB
namespace Go.Proofs.Qxb6002688a

theorem cmpL_neg : ∀ (l1 l2 : List Int), cmpL l1 l2 = - cmpL l2 l1
  | [], [] => by simp [cmpL]
  | [], b :: bs => by simp [cmpL]
  | a :: as, [] => by simp [cmpL]
  | a :: as, b :: bs => by
    rw [cmpL, cmpL]
    by_cases h1 : a < b
    · rw [if_pos h1, if_neg (by omega), if_pos h1]
    · by_cases h2 : b < a
      · rw [if_neg h1, if_pos h2, if_pos h2]; rfl
      · rw [if_neg h1, if_neg h2, if_neg h2, if_neg h1]
        exact cmpL_neg as bs
theorem cmpK_neg (t1 : Int) (l1 : List Int) (t2 : Int) (l2 : List Int) : cmpK t1 l1 t2 l2 = - cmpK t2 l2 t1 l1 := by
  unfold cmpK
  by_cases h1 : t1 < t2
  · rw [if_pos h1, if_neg (by omega), if_pos h1]
  · by_cases h2 : t2 < t1
    · rw [if_neg h1, if_pos h2, if_pos h2]; rfl
    · rw [if_neg h1, if_neg h2, if_neg h2, if_neg h1]
      exact cmpL_neg l1 l2

theorem short_hi (ta tb : Int) (la lb : List Int) (h1 : la.length = 32) (h2 : lb.length = 32) (hlt : cmpK ta la tb lb < 0) : 0 < cmpK tb (pad 32 lb (bp ta la tb lb)) ta la := by
  have h := sep_above ta tb la lb h1 h2 hlt
  rw [cmpK_neg]
  omega

theorem short_lo (ta tb : Int) (la lb : List Int) (h1 : la.length = 32) (h2 : lb.length = 32) (h0 : ∀ x ∈ la, 0 ≤ x) (hlt : cmpK ta la tb lb < 0) :
    ∀ k, k < bp ta la tb lb → cmpK tb (pad 32 lb k) ta la ≤ 0 := by
  intro k hk
  by_cases e : ta = tb
  · subst e
    have hL : cmpL la lb < 0 := by simpa [cmpK] using hlt
    obtain ⟨hs, x, y, hx, hy, hxy⟩ := cmp_first la lb (by rw [h1, h2]) hL
    have hd := (List.getElem?_eq_some_iff.1 hy).1
    have hb : bp ta la ta lb = same la lb + 1 := by simp [bp]
    have hp : pad 32 lb k = pad 32 la k := by
      unfold pad
      congr 1
      apply List.ext_getElem?
      intro j
      rw [List.getElem?_take, List.getElem?_take]
      by_cases hj : j < k
      · rw [if_pos hj, if_pos hj, hs j (by omega)]
      · rw [if_neg hj, if_neg hj]
    have hk' : cmpK ta (pad 32 lb k) ta la = cmpL (pad 32 la k) la := by rw [hp]; simp [cmpK]
    rw [hk']
    exact cmp_pad_le 32 la k h1 (by omega) h0
  · simp [bp, e] at hk

end Go.Proofs.Qxb6002688a
