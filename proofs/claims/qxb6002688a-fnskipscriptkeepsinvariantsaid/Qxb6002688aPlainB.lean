/-
  PLAIN LAWS ON KEYS AND BOUNDS: no Go in sight.
-/
namespace Go.Proofs.Qxb6002688a

/-- The lexical order of two lists of bytes: -1, 0, 1. -/
def cmpL : List Int → List Int → Int
  | a :: as, b :: bs => if a < b then -1 else if b < a then 1 else cmpL as bs
  | _, _ => 0
/-- The order of two keys: the timestamp first. -/
def cmpK (t1 : Int) (l1 : List Int) (t2 : Int) (l2 : List Int) : Int :=
  if t1 < t2 then -1 else if t2 < t1 then 1 else cmpL l1 l2
/-- How many bytes at the head are alike. -/
def same : List Int → List Int → Nat
  | a :: as, b :: bs => if a = b then same as bs + 1 else 0
  | _, _ => 0
/-- The first p bytes, then zeros, to the length n. -/
def pad (n : Nat) (l : List Int) (p : Nat) : List Int := l.take p ++ List.replicate (n - p) 0

theorem cmpL_drop (k : Nat) : ∀ (l1 l2 : List Int), (∀ j, j < k → l1[j]? = l2[j]?) → cmpL l1 l2 = cmpL (l1.drop k) (l2.drop k) := by
  induction k with
  | zero => intro l1 l2 _; rfl
  | succ k ih =>
    intro l1 l2 h
    cases l1 with
    | nil =>
      cases l2 with
      | nil => rfl
      | cons b bs => have := h 0 (by omega); simp at this
    | cons a as =>
      cases l2 with
      | nil => have := h 0 (by omega); simp at this
      | cons b bs =>
        have h0 := h 0 (by omega)
        simp at h0
        subst h0
        simp only [cmpL, List.drop_succ_cons]
        rw [if_neg (by omega), if_neg (by omega)]
        exact ih as bs (fun j hj => by simpa using h (j + 1) (by omega))

theorem cmp_lt (l1 l2 : List Int) (k : Nat) (x y : Int) (h : ∀ j, j < k → l1[j]? = l2[j]?) (hx : l1[k]? = some x) (hy : l2[k]? = some y) (hlt : x < y) : cmpL l1 l2 = -1 := by
  rw [cmpL_drop k l1 l2 h, List.drop_eq_getElem_cons (List.getElem?_eq_some_iff.1 hx).1, List.drop_eq_getElem_cons (List.getElem?_eq_some_iff.1 hy).1]
  rw [(List.getElem?_eq_some_iff.1 hx).2, (List.getElem?_eq_some_iff.1 hy).2, cmpL, if_pos hlt]
theorem cmp_gt (l1 l2 : List Int) (k : Nat) (x y : Int) (h : ∀ j, j < k → l1[j]? = l2[j]?) (hx : l1[k]? = some x) (hy : l2[k]? = some y) (hlt : y < x) : cmpL l1 l2 = 1 := by
  rw [cmpL_drop k l1 l2 h, List.drop_eq_getElem_cons (List.getElem?_eq_some_iff.1 hx).1, List.drop_eq_getElem_cons (List.getElem?_eq_some_iff.1 hy).1]
  rw [(List.getElem?_eq_some_iff.1 hx).2, (List.getElem?_eq_some_iff.1 hy).2, cmpL, if_neg (by omega), if_pos hlt]
theorem cmp_next {l1 l2 : List Int} {k : Nat} {x y : Int} (h : ∀ j, j < k → l1[j]? = l2[j]?) (hx : l1[k]? = some x) (hy : l2[k]? = some y) (he : x = y) : ∀ j, j < k + 1 → l1[j]? = l2[j]? := by
  intro j hj
  by_cases e : j = k
  · rw [e, hx, hy, he]
  · exact h j (by omega)
theorem cmp_end (l1 l2 : List Int) {k : Nat} (h1 : l1.length ≤ k) (h2 : l2.length ≤ k) (h : ∀ j, j < k → l1[j]? = l2[j]?) : cmpL l1 l2 = 0 := by
  rw [cmpL_drop k l1 l2 h, List.drop_eq_nil_of_le h1, List.drop_eq_nil_of_le h2, cmpL]
  all_goals simp

/-- The first place at which two lists of one length part, if the first is the lesser. -/
theorem cmp_first : ∀ (l1 l2 : List Int), l1.length = l2.length → cmpL l1 l2 < 0 →
    (∀ j, j < same l1 l2 → l1[j]? = l2[j]?) ∧ ∃ x y, l1[same l1 l2]? = some x ∧ l2[same l1 l2]? = some y ∧ x < y
  | [], [], _, h => by simp [cmpL] at h
  | [], b :: bs, hl, _ => by simp at hl
  | a :: as, [], hl, _ => by simp at hl
  | a :: as, b :: bs, hl, h => by
    by_cases e : a = b
    · subst e
      have h' : cmpL as bs < 0 := by simpa [cmpL] using h
      obtain ⟨h1, x, y, hx, hy, hlt⟩ := cmp_first as bs (by simpa using hl) h'
      have hs : same (a :: as) (a :: bs) = same as bs + 1 := by simp [same]
      rw [hs]
      refine ⟨?_, x, y, by simpa using hx, by simpa using hy, hlt⟩
      intro j hj
      cases j with
      | zero => rfl
      | succ j => simpa using h1 j (by omega)
    · have hs : same (a :: as) (b :: bs) = 0 := by simp [same, e]
      rw [hs]
      refine ⟨by intro j hj; omega, a, b, rfl, rfl, ?_⟩
      by_cases hab : a < b
      · exact hab
      · have hba : b < a := by omega
        simp [cmpL, hab, hba] at h

/-- How many bytes of b boundBetween keeps. -/
def bp (ta : Int) (la : List Int) (tb : Int) (lb : List Int) : Nat := if ta = tb then same la lb + 1 else 0

theorem pad_at {l : List Int} {p : Nat} (hl : l.length = 32) (hp : p ≤ 32) : ∀ k, k < p → (pad 32 l p)[k]? = l[k]? := by
  intro k hk
  rw [pad, List.getElem?_append_left (by simp; omega), List.getElem?_take, if_pos hk]
theorem pad_off {l : List Int} {p : Nat} (hl : l.length = 32) (hp : p ≤ 32) : ∀ k, p ≤ k → k < 32 → (pad 32 l p)[k]? = some 0 := by
  intro k hk h32
  rw [pad, List.getElem?_append_right (by simp; omega), List.getElem?_replicate, if_pos]
  simp; omega
/-- A list cut at p and filled with zeros is no greater than the list. -/
theorem cmp_pad_le : ∀ (n : Nat) (l : List Int) (p : Nat), l.length = n → p ≤ n → (∀ x ∈ l, 0 ≤ x) → cmpL (pad n l p) l ≤ 0
  | n, [], p, hl, hp, _ => by
    have : n = 0 := by simpa using hl.symm
    subst this
    simp [pad, cmpL]
  | n, b :: bs, p, hl, hp, h0 => by
    have hn : n = bs.length + 1 := by simpa using hl.symm
    cases p with
    | zero =>
      have e : pad n (b :: bs) 0 = 0 :: pad bs.length bs 0 := by rw [hn]; simp [pad, List.replicate_succ]
      rw [e, cmpL]
      have hb := h0 b (by simp)
      by_cases h : (0 : Int) < b
      · rw [if_pos h]; decide
      · rw [if_neg h, if_neg (by omega)]
        exact cmp_pad_le bs.length bs 0 rfl (by omega) (fun x hx => h0 x (by simp [hx]))
    | succ p =>
      have e : pad n (b :: bs) (p + 1) = b :: pad bs.length bs p := by rw [hn]; simp [pad]
      rw [e, cmpL, if_neg (by omega), if_neg (by omega)]
      exact cmp_pad_le bs.length bs p rfl (by omega) (fun x hx => h0 x (by simp [hx]))
/-- The bound lies above a. -/
theorem sep_above (ta tb : Int) (la lb : List Int) (h1 : la.length = 32) (h2 : lb.length = 32) (hlt : cmpK ta la tb lb < 0) : cmpK ta la tb (pad 32 lb (bp ta la tb lb)) < 0 := by
  by_cases e : ta = tb
  · subst e
    have hL : cmpL la lb < 0 := by simpa [cmpK] using hlt
    obtain ⟨hs, x, y, hx, hy, hxy⟩ := cmp_first la lb (by rw [h1, h2]) hL
    have hd := (List.getElem?_eq_some_iff.1 hy).1
    have hb : bp ta la ta lb = same la lb + 1 := by simp [bp]
    have hk : cmpK ta la ta (pad 32 lb (same la lb + 1)) = cmpL la (pad 32 lb (same la lb + 1)) := by simp [cmpK]
    rw [hb, hk, cmp_lt la _ (same la lb) x y (fun j hj => by rw [pad_at h2 (by omega) j (by omega)]; exact hs j hj) hx (by rw [pad_at h2 (by omega) _ (by omega)]; exact hy) hxy]
    decide
  · have : ta < tb := by
      unfold cmpK at hlt
      by_cases h : ta < tb
      · exact h
      · rw [if_neg h, if_pos (by omega)] at hlt; exact absurd hlt (by decide)
    simp [cmpK, this]
/-- The bound does not lie above b. -/
theorem sep_below (tb : Int) (lb : List Int) (p : Nat) (h2 : lb.length = 32) (hp : p ≤ 32) (h0 : ∀ x ∈ lb, 0 ≤ x) : cmpK tb (pad 32 lb p) tb lb ≤ 0 := by
  have : cmpK tb (pad 32 lb p) tb lb = cmpL (pad 32 lb p) lb := by simp [cmpK]
  rw [this]
  exact cmp_pad_le 32 lb p h2 hp h0

end Go.Proofs.Qxb6002688a
