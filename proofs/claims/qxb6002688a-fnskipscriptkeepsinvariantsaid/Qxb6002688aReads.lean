/-
  THE FUNCTIONS THAT ONLY READ THE PIECES, WALKED.
-/
import Derived.Test.Qxb6002688aMsg
namespace Go.Proofs.Qxb6002688a
open Go.RowKit

/-- What zzMsgFits answers. -/
def Fits (ls : List (List Int)) (w : World) (e : Ending) (w' : World) : Prop := ∃ b : Bool, e = .returned (.bool b) ∧ w' = w ∧ (b = true → 24 * ls.length + tot ls ≤ 1048576)

set_option maxHeartbeats 400000 in
theorem fits_any {N : Nat} {w : World} {v : Value} {ls : List (List Int)} (h : Pieces N w v ls) :
    Calls Try.prog 15 #[v] w fun e w' => Fits ls w e w' := by
  obtain ⟨ao, cap, rfl, hcap, hnil, hrow⟩ := h
  have HR := hid hrow; clear hrow hnil
  by_cases hbig : 65536 < ls.length
  · have hb : (65536 : Int) < (ls.length : Int) := by omega
    go_enter Try.func15, Try.ntmps15
    go_wp2
    go_ret
    exact ⟨false, rfl, rfl, by simp⟩
  have hb : ¬ (65536 : Int) < (ls.length : Int) := by omega
  have hbd : decide ((65536 : Int) < (ls.length : Int)) = false := by simp; omega
  go_enter Try.func15, Try.ntmps15
  go_wp2
  go_loop [3, 14] (fun t i => ∃ k : Nat, k ≤ ls.length ∧ i = .int .i64 k ∧ t = .int .i64 ((24 * ls.length + tot (ls.take k) : Nat) : Int) ∧ tot (ls.take k) ≤ 1048576 ∧ (k ≠ 0 → 24 * ls.length + tot (ls.take k) ≤ 1048576)) (fun _ i => ls.length - (intOf i).toNat)
  case atStart => exact ⟨0, by omega, rfl, by simp [tot], by simp [tot], by simp⟩
  case round =>
    obtain ⟨k, hk, rfl, rfl, hs, hs2⟩ := hrel
    have HS2 := hid hs2; clear hs2
    have b0 : (0 : Int) ≤ (k : Int) := by omega
    by_cases hlt : k < ls.length
    · obtain ⟨b, o, bs, a, c, rfl, hbs, hcell, _⟩ := HR.out.at hlt
      have HS := hid (tot_snoc ls k bs hbs)
      clear hbs
      generalize hT : tot (ls.take k) = T at *
      have HT := hid hT; clear hT
      by_cases h1 : 1048576 < bs.length
      · have h1' : (1048576 : Int) < (bs.length : Int) := by omega
        go_wp2
        go_ret
        exact ⟨false, rfl, rfl, by simp⟩
      · have h1' : ¬ (1048576 : Int) < (bs.length : Int) := by omega
        by_cases h2 : 1048576 < 24 * ls.length + T + bs.length
        · have h2' : (1048576 : Int) < 24 * (ls.length : Int) + (T : Int) + (bs.length : Int) := by omega
          go_wp2
          go_ret
          exact ⟨false, rfl, rfl, by simp⟩
        · have h2' : ¬ (1048576 : Int) < 24 * (ls.length : Int) + (T : Int) + (bs.length : Int) := by omega
          go_wp2
          go_round
          case rel => exact ⟨k + 1, by omega, by go_num, by rw [HS.out]; go_num, by rw [HS.out]; omega, by rw [HS.out]; omega⟩
          case measure => simp [intOf]; omega
    · obtain rfl : k = ls.length := by omega
      go_wp2
      go_ret
      refine ⟨true, rfl, rfl, fun _ => ?_⟩
      have h1 := HS2.out
      rw [List.take_length] at h1
      by_cases hz : ls.length = 0
      · have : ls = [] := List.eq_nil_of_length_eq_zero hz
        rw [this]; simp [tot]
      · exact h1 hz

set_option maxHeartbeats 400000 in
theorem noEmpty_any {N : Nat} {w : World} {v : Value} {ls : List (List Int)} (h : Pieces N w v ls) (hf : full ls) (hn : ls.length ≤ 1048576) :
    Calls Try.prog 21 #[v] w fun e w' => e = .returned (.bool true) ∧ w' = w := by
  obtain ⟨ao, cap, rfl, hcap, hnil, hrow⟩ := h
  have HR := hid hrow; have HF := hid hf; clear hrow hnil hf
  go_enter Try.func21, Try.ntmps21
  go_wp2
  go_loop [7] (fun i => ∃ k : Nat, k ≤ ls.length ∧ i = .int .i64 k) (fun i => ls.length - (intOf i).toNat)
  case atStart => exact ⟨0, by omega, rfl⟩
  case round =>
    obtain ⟨k, hk, rfl⟩ := hrel
    have b0 : (0 : Int) ≤ (k : Int) := by omega
    by_cases hlt : k < ls.length
    · obtain ⟨b, o, bs, a, c, rfl, hbs, hcell, _⟩ := HR.out.at hlt
      have hne : bs ≠ [] := HF.out bs (List.mem_of_getElem? hbs)
      have hpos : 0 < bs.length := List.length_pos_iff.2 hne
      have hz : ((bs.length : Int) == 0) = false := by simpa using hne
      clear hbs hne
      go_wp2
      go_round
      case rel => exact ⟨k + 1, by omega, by go_num⟩
      case measure => simp [intOf]; omega
    · go_wp2
      go_ret
      exact ⟨rfl, rfl⟩

set_option maxHeartbeats 400000 in
theorem equal_any {N : Nat} {w : World} {u v : Value} {bs : List Int} (hu : Piece N w u bs) (hv : Piece N w v bs) (hn : bs.length ≤ 1048576) :
    Calls Try.prog 22 #[u, v] w fun e w' => e = .returned (.bool true) ∧ ∃ n, w' = w.drewN n := by
  obtain ⟨a1, c1, rfl, hc1, _, h1⟩ := hu
  obtain ⟨a2, c2, rfl, hc2, _, h2⟩ := hv
  have H1 := hid h1; have H2 := hid h2; clear h1 h2
  go_enter Try.func22, Try.ntmps22
  go_wp2
  go_loopw [13] (fun i wr => ∃ k n : Nat, k ≤ bs.length ∧ i = .int .i64 k ∧ wr = w.drewN n) (fun i _ => bs.length - (intOf i).toNat)
  case atStart => exact ⟨0, 0, by omega, rfl, rfl⟩
  case round =>
    obtain ⟨k, n, hk, rfl, rfl⟩ := hrel
    have b0 : (0 : Int) ≤ (k : Int) := by omega
    by_cases hlt : k < bs.length
    · have hne : bs ≠ [] := by intro e; rw [e] at hlt; simp at hlt
      obtain ⟨b, o, rfl, _, hcb⟩ := H1.out hne
      obtain ⟨b', o', rfl, _, hcb'⟩ := H2.out hne
      obtain ⟨x, hx⟩ : ∃ x, bs[k]? = some x := ⟨_, List.getElem?_eq_getElem hlt⟩
      have ca := hcb k x hx
      have cb := hcb' k x hx
      have b1 : (k : Int) < (bs.length : Int) := by omega
      clear hx hcb hcb' hne
      go_wp2_with fail
      go_quiet (fail)
      go_wp2_with fail
      go_roundw
      case rel => exact ⟨k + 1, _, by omega, by go_num, rfl⟩
      case measure => simp [intOf]; omega
    · go_wp2_with fail
      go_ret
      exact ⟨rfl, n, rfl⟩

end Go.Proofs.Qxb6002688a
