/-
  PLAIN LAWS ON PIECES: no Go in sight.
-/
namespace Go.Proofs.Qxb6002688a

/-- The bytes of all pieces, counted. -/
def tot : List (List Int) → Nat
  | [] => 0
  | p :: ps => p.length + tot ps
/-- Pass over n bytes. -/
def dropB (n : Nat) : List (List Int) → List (List Int)
  | [] => []
  | p :: ps => if n = 0 then p :: ps else if n < p.length then p.drop n :: ps else dropB (n - p.length) ps
/-- No piece is empty. -/
def full (ls : List (List Int)) : Prop := ∀ p ∈ ls, p ≠ []
/-- The pieces that are not empty. -/
def packed : List (List Int) → List (List Int)
  | [] => []
  | p :: ps => if p = [] then packed ps else p :: packed ps

theorem tot_flatten : ∀ ls : List (List Int), tot ls = ls.flatten.length
  | [] => rfl
  | p :: ps => by simp [tot, tot_flatten ps]
theorem tot_append : ∀ (a b : List (List Int)), tot (a ++ b) = tot a + tot b
  | [], b => by simp [tot]
  | p :: ps, b => by simp [tot, tot_append ps b]; omega
theorem take_snoc {α : Type} (l : List α) (k : Nat) (x : α) (h : l[k]? = some x) : l.take (k + 1) = l.take k ++ [x] := by
  obtain ⟨hlt, rfl⟩ := List.getElem?_eq_some_iff.1 h
  exact List.take_succ_eq_append_getElem hlt
theorem tot_snoc (ls : List (List Int)) (k : Nat) (p : List Int) (h : ls[k]? = some p) : tot (ls.take (k + 1)) = tot (ls.take k) + p.length := by
  rw [take_snoc ls k p h, tot_append]; simp [tot]
theorem tot_take_le (ls : List (List Int)) (k : Nat) : tot (ls.take k) ≤ tot ls := by
  have h := tot_append (ls.take k) (ls.drop k)
  rw [List.take_append_drop] at h
  omega
theorem tot_at_le (ls : List (List Int)) (k : Nat) (p : List Int) (h : ls[k]? = some p) : tot (ls.take k) + p.length ≤ tot ls := by
  rw [← tot_snoc ls k p h]; exact tot_take_le ls (k + 1)

theorem drop_flatten : ∀ (ls : List (List Int)) (n : Nat), (dropB n ls).flatten = ls.flatten.drop n
  | [], n => by simp [dropB]
  | p :: ps, n => by
    unfold dropB
    by_cases h0 : n = 0
    · simp [h0]
    · rw [if_neg h0]
      by_cases h1 : n < p.length
      · rw [if_pos h1]
        simp only [List.flatten_cons]
        rw [List.drop_append_of_le_length (by omega)]
      · rw [if_neg h1, drop_flatten ps]
        simp only [List.flatten_cons]
        rw [List.drop_append, List.drop_eq_nil_of_le (show p.length ≤ n by omega), List.nil_append]
theorem drop_full : ∀ (ls : List (List Int)) (n : Nat), full ls → full (dropB n ls)
  | [], n, _ => by intro p hp; simp [dropB] at hp
  | p :: ps, n, h => by
    unfold dropB
    by_cases h0 : n = 0
    · rw [if_pos h0]; exact h
    · rw [if_neg h0]
      by_cases h1 : n < p.length
      · rw [if_pos h1]
        intro q hq
        rcases List.mem_cons.1 hq with rfl | hq
        · intro e
          have := congrArg List.length e
          simp at this; omega
        · exact h q (by simp [hq])
      · rw [if_neg h1]
        exact drop_full ps _ (fun q hq => h q (by simp [hq]))
theorem drop_tot (ls : List (List Int)) (n : Nat) : tot (dropB n ls) = tot ls - n := by
  rw [tot_flatten, tot_flatten, drop_flatten, List.length_drop]
theorem packed_full : ∀ ls : List (List Int), full (packed ls)
  | [] => by intro p hp; simp [packed] at hp
  | p :: ps => by
    unfold packed
    by_cases h : p = []
    · rw [if_pos h]; exact packed_full ps
    · rw [if_neg h]
      intro q hq
      rcases List.mem_cons.1 hq with rfl | hq
      · exact h
      · exact packed_full ps q hq
theorem packed_flatten : ∀ ls : List (List Int), (packed ls).flatten = ls.flatten
  | [] => rfl
  | p :: ps => by
    unfold packed
    by_cases h : p = []
    · rw [if_pos h, packed_flatten ps, h]; rfl
    · rw [if_neg h, List.flatten_cons, List.flatten_cons, packed_flatten ps]
theorem packed_tot (ls : List (List Int)) : tot (packed ls) = tot ls := by rw [tot_flatten, tot_flatten, packed_flatten]
theorem packed_append : ∀ (a b : List (List Int)), packed (a ++ b) = packed a ++ packed b
  | [], b => rfl
  | p :: ps, b => by
    simp only [List.cons_append, packed]
    by_cases h : p = []
    · rw [if_pos h, if_pos h, packed_append ps b]
    · rw [if_neg h, if_neg h, packed_append ps b, List.cons_append]
theorem packed_length : ∀ ls : List (List Int), (packed ls).length ≤ ls.length
  | [] => Nat.le_refl _
  | p :: ps => by
    unfold packed
    have := packed_length ps
    by_cases h : p = []
    · rw [if_pos h]; simp; omega
    · rw [if_neg h]; simp; omega
theorem full_of_tot_zero (ls : List (List Int)) (h : full ls) (h0 : tot ls = 0) : ls = [] := by
  cases ls with
  | nil => rfl
  | cons p ps =>
    have hp := h p (by simp)
    have : p.length = 0 := by rw [tot] at h0; omega
    exact absurd (List.eq_nil_of_length_eq_zero this) hp

theorem drop_length : ∀ (ls : List (List Int)) (n : Nat), (dropB n ls).length ≤ ls.length
  | [], n => by simp [dropB]
  | p :: ps, n => by
    unfold dropB
    by_cases h0 : n = 0
    · rw [if_pos h0]; exact Nat.le_refl _
    · rw [if_neg h0]
      by_cases h1 : n < p.length
      · rw [if_pos h1]; simp
      · rw [if_neg h1]
        have := drop_length ps (n - p.length)
        simp; omega

end Go.Proofs.Qxb6002688a
