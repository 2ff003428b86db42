/-
  A SLICE OF BYTES, A SLICE OF SUCH SLICES, IN MEMORY.
-/
import Derived.Test.Qxb6002688aRows
import Derived.Test.Qxb6002688aPlainR
import Derived.WalkKit
import Derived.WalkSpells
import Derived.WalkLawsBesides
import Derived.BigQuiet
import Derived.Deep.QuietTactic
import Derived.Deep.MidRow
namespace Go.Proofs.Qxb6002688a
open Go.RowKit

/-- A fact is put aside, out of the walk's sight. -/
theorem hid {p : Prop} (h : p) : Hid p := h

/-- The bytes bs lie behind the slice u, in a block below N. -/
def Piece (N : Nat) (w : World) (u : Value) (bs : List Int) : Prop :=
  ∃ (ao : Option Addr) (cap : Nat), u = .slice ao bs.length cap ∧ bs.length ≤ cap ∧ (ao = none → cap = 0) ∧
    (bs ≠ [] → ∃ b o, ao = some ⟨b, o, none⟩ ∧ b < N ∧ ∀ j x, bs[j]? = some x → w.cell? ⟨b, o + j, none⟩ = some (.int .u8 x))
/-- The cells from the address on hold the pieces. -/
def PRow (N : Nat) (w : World) (ao : Option Addr) (ls : List (List Int)) : Prop :=
  ls ≠ [] → ∃ b o, ao = some ⟨b, o, none⟩ ∧ ∀ (i : Nat) bs, ls[i]? = some bs → ∃ u, w.cell? ⟨b, o + i, none⟩ = some u ∧ Piece N w u bs
/-- The pieces lie behind the slice of slices v. -/
def Pieces (N : Nat) (w : World) (v : Value) (ls : List (List Int)) : Prop :=
  ∃ (ao : Option Addr) (cap : Nat), v = .slice ao ls.length cap ∧ ls.length ≤ cap ∧ (ao = none → cap = 0) ∧ PRow N w ao ls

theorem Piece.below {N : Nat} {w w' : World} {u : Value} {bs : List Int} (h : Piece N w u bs) (hb : Below N w w') : Piece N w' u bs := by
  obtain ⟨ao, cap, rfl, h1, h2, h3⟩ := h
  refine ⟨ao, cap, rfl, h1, h2, fun hne => ?_⟩
  obtain ⟨b, o, rfl, hlt, hc⟩ := h3 hne
  exact ⟨b, o, rfl, hlt, fun j x hx => by rw [hb.cell (p := ⟨b, o + j, none⟩) hlt]; exact hc j x hx⟩
theorem Piece.mono {N N' : Nat} {w : World} {u : Value} {bs : List Int} (h : Piece N w u bs) (hN : N ≤ N') : Piece N' w u bs := by
  obtain ⟨ao, cap, rfl, h1, h2, h3⟩ := h
  refine ⟨ao, cap, rfl, h1, h2, fun hne => ?_⟩
  obtain ⟨b, o, rfl, hlt, hc⟩ := h3 hne
  exact ⟨b, o, rfl, by omega, hc⟩
theorem PRow.below {N : Nat} {w w' : World} {ao : Option Addr} {ls : List (List Int)} (h : PRow N w ao ls) (hb : Below w.heap.size w w') (hN : N ≤ w.heap.size) : PRow N w' ao ls := by
  intro hne
  obtain ⟨b, o, rfl, hc⟩ := h hne
  refine ⟨b, o, rfl, fun i bs hi => ?_⟩
  obtain ⟨u, hu, hp⟩ := hc i bs hi
  have hlt := World.block_lt_of_cell? w _ hu
  exact ⟨u, by rw [hb.cell hlt]; exact hu, hp.below (hb.mono hN)⟩
theorem Pieces.below {N : Nat} {w w' : World} {v : Value} {ls : List (List Int)} (h : Pieces N w v ls) (hb : Below w.heap.size w w') (hN : N ≤ w.heap.size) : Pieces N w' v ls := by
  obtain ⟨ao, cap, rfl, h1, h2, h3⟩ := h
  exact ⟨ao, cap, rfl, h1, h2, h3.below hb hN⟩
theorem PRow.mono {N N' : Nat} {w : World} {ao : Option Addr} {ls : List (List Int)} (h : PRow N w ao ls) (hN : N ≤ N') : PRow N' w ao ls := by
  intro hne
  obtain ⟨b, o, rfl, hc⟩ := h hne
  refine ⟨b, o, rfl, fun i bs hi => ?_⟩
  obtain ⟨u, hu, hp⟩ := hc i bs hi
  exact ⟨u, hu, hp.mono hN⟩
theorem Pieces.mono {N N' : Nat} {w : World} {v : Value} {ls : List (List Int)} (h : Pieces N w v ls) (hN : N ≤ N') : Pieces N' w v ls := by
  obtain ⟨ao, cap, rfl, h1, h2, h3⟩ := h
  exact ⟨ao, cap, rfl, h1, h2, h3.mono hN⟩
/-- The k-th cell of a row. -/
theorem PRow.at {N : Nat} {w : World} {ao : Option Addr} {ls : List (List Int)} (h : PRow N w ao ls) {k : Nat} (hk : k < ls.length) :
    ∃ b o bs a c, ao = some ⟨b, o, none⟩ ∧ ls[k]? = some bs ∧ w.cell? ⟨b, o + k, none⟩ = some (.slice a bs.length c) ∧ Piece N w (.slice a bs.length c) bs := by
  obtain ⟨b, o, rfl, hc⟩ := h (by intro e; rw [e] at hk; simp at hk)
  obtain ⟨u, hu, hp⟩ := hc k _ (List.getElem?_eq_getElem hk)
  obtain ⟨a, c, rfl, h2⟩ := hp
  exact ⟨b, o, _, a, c, rfl, List.getElem?_eq_getElem hk, hu, ⟨a, c, rfl, h2⟩⟩

set_option maxHeartbeats 400000 in
theorem total_any {N : Nat} {w : World} {v : Value} {ls : List (List Int)} (h : Pieces N w v ls) (ht : tot ls ≤ 1048576) (hn : ls.length ≤ 1048576) :
    Calls Try.prog 16 #[v] w fun e w' => e = .returned (.int .i64 (tot ls)) ∧ w' = w := by
  obtain ⟨ao, cap, rfl, hcap, hnil, hrow⟩ := h
  have HR := hid hrow; clear hrow hnil
  go_enter Try.func16, Try.ntmps16
  go_wp2
  go_loop [3, 8] (fun t i => ∃ k : Nat, k ≤ ls.length ∧ i = .int .i64 k ∧ t = .int .i64 (tot (ls.take k))) (fun _ i => ls.length - (intOf i).toNat)
  case atStart => exact ⟨0, by omega, rfl, by simp [tot]⟩
  case round =>
    obtain ⟨k, hk, rfl, rfl⟩ := hrel
    have b0 : (0 : Int) ≤ (k : Int) := by omega
    by_cases hlt : k < ls.length
    · obtain ⟨b, o, bs, a, c, rfl, hbs, hcell, _⟩ := HR.out.at hlt
      have HS := hid (tot_snoc ls k bs hbs)
      have hle := tot_at_le ls k bs hbs
      clear hbs
      generalize hT : tot (ls.take k) = T at *
      have HT := hid hT; clear hT
      go_wp2
      go_round
      case rel => exact ⟨k + 1, by omega, by go_num, by rw [HS.out]; go_num⟩
      case measure => simp [intOf]; omega
    · go_wp2
      go_ret
      refine ⟨?_, rfl⟩
      obtain rfl : k = ls.length := by omega
      simp

end Go.Proofs.Qxb6002688a
