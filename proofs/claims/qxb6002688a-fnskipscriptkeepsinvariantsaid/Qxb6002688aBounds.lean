/-
  THE BOUNDS LAID BY PROGRAM (zzBytes_..), WALKED: each answers a bool and touches nothing.
-/
import Derived.Test.Qxb6002688aReads
namespace Go.Proofs.Qxb6002688a
open Go.RowKit

/-- It answers a bool; the world stands. -/
def Ans (w : World) (e : Ending) (w' : World) : Prop := ∃ b : Bool, e = .returned (.bool b) ∧ w' = w

set_option maxHeartbeats 400000 in
theorem bytes14_any {N : Nat} {w : World} {v : Value} {ls : List (List Int)} (h : Pieces N w v ls) (q : Bool) :
    Calls Try.prog 14 #[v, .bool q] w fun e w' => Ans w e w' := by
  obtain ⟨ao, cap, rfl, hcap, hnil, hrow⟩ := h
  have HR := hid hrow; clear hrow hnil
  by_cases hbig : 1048576 < ls.length
  · have hb : (1048576 : Int) < (ls.length : Int) := by omega
    go_enter Try.func14, Try.ntmps14
    go_wp2
    go_ret
    exact ⟨false, rfl, rfl⟩
  have hb : ¬ (1048576 : Int) < (ls.length : Int) := by omega
  have hbd : decide ((1048576 : Int) < (ls.length : Int)) = false := by simp; omega
  go_enter Try.func14, Try.ntmps14
  go_wp2
  go_loop [5, 6] (fun t i => ∃ k z : Nat, k ≤ ls.length ∧ i = .int .i64 k ∧ t = .int .i64 z ∧ z ≤ 1048576) (fun _ i => ls.length - (intOf i).toNat)
  case atStart => exact ⟨0, ls.length, by omega, rfl, rfl, by omega⟩
  case round =>
    obtain ⟨k, z, hk, rfl, rfl, hz⟩ := hrel
    have b0 : (0 : Int) ≤ (k : Int) := by omega
    by_cases hlt : k < ls.length
    · obtain ⟨b, o, bs, a, c, rfl, hbs, hcell, _⟩ := HR.out.at hlt
      clear hbs
      by_cases h1 : 1048576 < bs.length
      · have h1' : (1048576 : Int) < (bs.length : Int) := by omega
        go_wp2
        go_ret
        exact ⟨false, rfl, rfl⟩
      · have h1' : ¬ (1048576 : Int) < (bs.length : Int) := by omega
        by_cases h2 : 1048576 < z + bs.length
        · have h2' : (1048576 : Int) < (z : Int) + (bs.length : Int) := by omega
          go_wp2
          go_ret
          exact ⟨false, rfl, rfl⟩
        · have h2' : ¬ (1048576 : Int) < (z : Int) + (bs.length : Int) := by omega
          go_wp2
          go_round
          case rel => exact ⟨k + 1, z + bs.length, by omega, by go_num, by go_num, by omega⟩
          case measure => simp [intOf]; omega
    · go_wp2
      go_ret
      exact ⟨true, rfl, rfl⟩

set_option maxHeartbeats 400000 in
theorem bytes23_any {N : Nat} {w : World} {v : Value} {ls : List (List Int)} (h : Pieces N w v ls) (q : Bool) :
    Calls Try.prog 23 #[v, .bool q] w fun e w' => Ans w e w' := by
  obtain ⟨ao, cap, rfl, hcap, hnil, hrow⟩ := h
  have HR := hid hrow; clear hrow hnil
  by_cases hbig : 1048576 < ls.length
  · have hb : (1048576 : Int) < (ls.length : Int) := by omega
    go_enter Try.func23, Try.ntmps23
    go_wp2
    go_ret
    exact ⟨false, rfl, rfl⟩
  have hb : ¬ (1048576 : Int) < (ls.length : Int) := by omega
  have hbd : decide ((1048576 : Int) < (ls.length : Int)) = false := by simp; omega
  go_enter Try.func23, Try.ntmps23
  go_wp2
  go_loop [5, 6] (fun t i => ∃ k z : Nat, k ≤ ls.length ∧ i = .int .i64 k ∧ t = .int .i64 z ∧ z ≤ 1048576) (fun _ i => ls.length - (intOf i).toNat)
  case atStart => exact ⟨0, ls.length, by omega, rfl, rfl, by omega⟩
  case round =>
    obtain ⟨k, z, hk, rfl, rfl, hz⟩ := hrel
    have b0 : (0 : Int) ≤ (k : Int) := by omega
    by_cases hlt : k < ls.length
    · obtain ⟨b, o, bs, a, c, rfl, hbs, hcell, _⟩ := HR.out.at hlt
      clear hbs
      by_cases h1 : 1048576 < bs.length
      · have h1' : (1048576 : Int) < (bs.length : Int) := by omega
        go_wp2
        go_ret
        exact ⟨false, rfl, rfl⟩
      · have h1' : ¬ (1048576 : Int) < (bs.length : Int) := by omega
        by_cases h2 : 1048576 < z + bs.length
        · have h2' : (1048576 : Int) < (z : Int) + (bs.length : Int) := by omega
          go_wp2
          go_ret
          exact ⟨false, rfl, rfl⟩
        · have h2' : ¬ (1048576 : Int) < (z : Int) + (bs.length : Int) := by omega
          go_wp2
          go_round
          case rel => exact ⟨k + 1, z + bs.length, by omega, by go_num, by go_num, by omega⟩
          case measure => simp [intOf]; omega
    · go_wp2
      go_ret
      exact ⟨true, rfl, rfl⟩

set_option maxHeartbeats 400000 in
theorem bytes24_any {N : Nat} {w : World} {v : Value} {ls : List (List Int)} (h : Pieces N w v ls) (q : Int) :
    Calls Try.prog 24 #[v, .int .i64 q] w fun e w' => Ans w e w' := by
  obtain ⟨ao, cap, rfl, hcap, hnil, hrow⟩ := h
  have HR := hid hrow; clear hrow hnil
  by_cases hbig : 1048576 < ls.length
  · have hb : (1048576 : Int) < (ls.length : Int) := by omega
    go_enter Try.func24, Try.ntmps24
    go_wp2
    go_ret
    exact ⟨false, rfl, rfl⟩
  have hb : ¬ (1048576 : Int) < (ls.length : Int) := by omega
  have hbd : decide ((1048576 : Int) < (ls.length : Int)) = false := by simp; omega
  go_enter Try.func24, Try.ntmps24
  go_wp2
  go_loop [5, 6] (fun t i => ∃ k z : Nat, k ≤ ls.length ∧ i = .int .i64 k ∧ t = .int .i64 z ∧ z ≤ 1048576) (fun _ i => ls.length - (intOf i).toNat)
  case atStart => exact ⟨0, ls.length, by omega, rfl, rfl, by omega⟩
  case round =>
    obtain ⟨k, z, hk, rfl, rfl, hz⟩ := hrel
    have b0 : (0 : Int) ≤ (k : Int) := by omega
    by_cases hlt : k < ls.length
    · obtain ⟨b, o, bs, a, c, rfl, hbs, hcell, _⟩ := HR.out.at hlt
      clear hbs
      by_cases h1 : 1048576 < bs.length
      · have h1' : (1048576 : Int) < (bs.length : Int) := by omega
        go_wp2
        go_ret
        exact ⟨false, rfl, rfl⟩
      · have h1' : ¬ (1048576 : Int) < (bs.length : Int) := by omega
        by_cases h2 : 1048576 < z + bs.length
        · have h2' : (1048576 : Int) < (z : Int) + (bs.length : Int) := by omega
          go_wp2
          go_ret
          exact ⟨false, rfl, rfl⟩
        · have h2' : ¬ (1048576 : Int) < (z : Int) + (bs.length : Int) := by omega
          go_wp2
          go_round
          case rel => exact ⟨k + 1, z + bs.length, by omega, by go_num, by go_num, by omega⟩
          case measure => simp [intOf]; omega
    · go_wp2
      go_ret
      exact ⟨true, rfl, rfl⟩

set_option maxHeartbeats 400000 in
theorem bytes26_any {N : Nat} {w : World} {v : Value} {ls : List (List Int)} (h : Pieces N w v ls) (q q2 : Int) :
    Calls Try.prog 26 #[v, .int .i64 q, .int .i64 q2] w fun e w' => Ans w e w' := by
  obtain ⟨ao, cap, rfl, hcap, hnil, hrow⟩ := h
  have HR := hid hrow; clear hrow hnil
  by_cases hbig : 1048576 < ls.length
  · have hb : (1048576 : Int) < (ls.length : Int) := by omega
    go_enter Try.func26, Try.ntmps26
    go_wp2
    go_ret
    exact ⟨false, rfl, rfl⟩
  have hb : ¬ (1048576 : Int) < (ls.length : Int) := by omega
  have hbd : decide ((1048576 : Int) < (ls.length : Int)) = false := by simp; omega
  go_enter Try.func26, Try.ntmps26
  go_wp2
  go_loop [7, 8] (fun t i => ∃ k z : Nat, k ≤ ls.length ∧ i = .int .i64 k ∧ t = .int .i64 z ∧ z ≤ 1048576) (fun _ i => ls.length - (intOf i).toNat)
  case atStart => exact ⟨0, ls.length, by omega, rfl, rfl, by omega⟩
  case round =>
    obtain ⟨k, z, hk, rfl, rfl, hz⟩ := hrel
    have b0 : (0 : Int) ≤ (k : Int) := by omega
    by_cases hlt : k < ls.length
    · obtain ⟨b, o, bs, a, c, rfl, hbs, hcell, _⟩ := HR.out.at hlt
      clear hbs
      by_cases h1 : 1048576 < bs.length
      · have h1' : (1048576 : Int) < (bs.length : Int) := by omega
        go_wp2
        go_ret
        exact ⟨false, rfl, rfl⟩
      · have h1' : ¬ (1048576 : Int) < (bs.length : Int) := by omega
        by_cases h2 : 1048576 < z + bs.length
        · have h2' : (1048576 : Int) < (z : Int) + (bs.length : Int) := by omega
          go_wp2
          go_ret
          exact ⟨false, rfl, rfl⟩
        · have h2' : ¬ (1048576 : Int) < (z : Int) + (bs.length : Int) := by omega
          go_wp2
          go_round
          case rel => exact ⟨k + 1, z + bs.length, by omega, by go_num, by go_num, by omega⟩
          case measure => simp [intOf]; omega
    · go_wp2
      go_ret
      exact ⟨true, rfl, rfl⟩

set_option maxHeartbeats 400000 in
theorem bytes27_any {N : Nat} {w : World} {v : Value} {ls : List (List Int)} (h : Pieces N w v ls) (sa : Option Addr) (n sc : Nat) :
    Calls Try.prog 27 #[v, .slice sa n sc] w fun e w' => Ans w e w' := by
  obtain ⟨ao, cap, rfl, hcap, hnil, hrow⟩ := h
  have HR := hid hrow; clear hrow hnil
  by_cases hbig : 1048576 < ls.length
  · have hb : (1048576 : Int) < (ls.length : Int) := by omega
    go_enter Try.func27, Try.ntmps27
    go_wp2
    go_ret
    exact ⟨false, rfl, rfl⟩
  have hb : ¬ (1048576 : Int) < (ls.length : Int) := by omega
  have hbd : decide ((1048576 : Int) < (ls.length : Int)) = false := by simp; omega
  go_enter Try.func27, Try.ntmps27
  go_wp2
  go_loop [5, 6] (fun t i => ∃ k z : Nat, k ≤ ls.length ∧ i = .int .i64 k ∧ t = .int .i64 z ∧ z ≤ 1048576) (fun _ i => ls.length - (intOf i).toNat)
  case atStart => exact ⟨0, ls.length, by omega, rfl, rfl, by omega⟩
  case round =>
    obtain ⟨k, z, hk, rfl, rfl, hz⟩ := hrel
    have b0 : (0 : Int) ≤ (k : Int) := by omega
    by_cases hlt : k < ls.length
    · obtain ⟨b, o, bs, a, c, rfl, hbs, hcell, _⟩ := HR.out.at hlt
      clear hbs
      by_cases h1 : 1048576 < bs.length
      · have h1' : (1048576 : Int) < (bs.length : Int) := by omega
        go_wp2
        go_ret
        exact ⟨false, rfl, rfl⟩
      · have h1' : ¬ (1048576 : Int) < (bs.length : Int) := by omega
        by_cases h2 : 1048576 < z + bs.length
        · have h2' : (1048576 : Int) < (z : Int) + (bs.length : Int) := by omega
          go_wp2
          go_ret
          exact ⟨false, rfl, rfl⟩
        · have h2' : ¬ (1048576 : Int) < (z : Int) + (bs.length : Int) := by omega
          go_wp2
          go_round
          case rel => exact ⟨k + 1, z + bs.length, by omega, by go_num, by go_num, by omega⟩
          case measure => simp [intOf]; omega
    · by_cases g1 : 1048576 < n
      · have g1' : (1048576 : Int) < (n : Int) := by omega
        go_wp2
        go_ret
        exact ⟨false, rfl, rfl⟩
      · have g1' : ¬ (1048576 : Int) < (n : Int) := by omega
        by_cases g2 : 1048576 < z + n
        · have g2' : (1048576 : Int) < (z : Int) + (n : Int) := by omega
          go_wp2
          go_ret
          exact ⟨false, rfl, rfl⟩
        · have g2' : ¬ (1048576 : Int) < (z : Int) + (n : Int) := by omega
          go_wp2
          go_ret
          exact ⟨true, rfl, rfl⟩

end Go.Proofs.Qxb6002688a
