/-
  zzCloneMsg, WALKED.
-/
import Derived.Test.Qxb6002688aFlatten
import Derived.Test.Qxb6002688aNewReader
import Derived.Laws.CopyOwn
import Derived.Deep.OwnRows
namespace Go.Proofs.Qxb6002688a
open Go.RowKit

/-- What zzCloneMsg leaves. -/
def Cloned (ls : List (List Int)) (w : World) (e : Ending) (w' : World) : Prop := ∃ v, e = .returned v ∧ Pieces w'.heap.size w' v ls ∧ Below w.heap.size w w'

/-- What holds at the head of the loop. -/
def CI (w : World) (ls : List (List Int)) (k : Nat) (wr : World) (us : List Value) : Prop :=
  us.length = ls.length ∧ wr.heap[w.heap.size]? = some (.cells us.toArray 38 (0, 0)) ∧ (∀ (i : Nat) u bs, i < k → us[i]? = some u → ls[i]? = some bs → Piece wr.heap.size wr u bs) ∧
    (∀ i, k ≤ i → i < ls.length → us[i]? = some (.slice none 0 0)) ∧ Below w.heap.size w wr ∧ w.heap.size < wr.heap.size

theorem made_list (n : Nat) (z : Value) : (madeCells #[z] n) = (List.replicate n z).toArray := by
  apply Array.ext_getElem?
  intro i
  simp only [madeCells]
  by_cases h : i < n
  · simp [h, Nat.mod_one]
  · rw [Array.getElem?_eq_none (by simp; omega)]
    simp [h]

theorem CI.start (w : World) (ls : List (List Int)) : CI w ls 0 (w.alloc (.cells (madeCells #[.slice none 0 0] ls.length) 38)) (List.replicate ls.length (.slice none 0 0)) := by
  refine ⟨by simp, by rw [made_list]; exact heap_alloc_new w _, by intro i u bs h; omega, ?_, (Below.refl _ _).alloc (Nat.le_refl _) _, by simp⟩
  intro i _ hi
  simp [hi]

theorem nil_piece (N : Nat) (w : World) : Piece N w (.slice none 0 0) [] := ⟨none, 0, rfl, Nat.le_refl _, fun _ => rfl, fun h => absurd rfl h⟩

theorem CI.pass {w : World} {ls : List (List Int)} {k : Nat} {wr : World} {us : List Value} (h : CI w ls k wr us) (hk : ls[k]? = some []) : CI w ls (k + 1) wr us := by
  obtain ⟨h1, h2, h3, h4, h5, h6⟩ := h
  refine ⟨h1, h2, ?_, fun i hi hl => h4 i (by omega) hl, h5, h6⟩
  intro i u bs hi hu hb
  by_cases e : i = k
  · subst e
    rw [h4 i (Nat.le_refl _) (List.getElem?_eq_some_iff.1 hk).1] at hu
    rw [hk] at hb
    injection hu with hu; injection hb with hb
    subst hu; subst hb
    exact nil_piece _ _
  · exact h3 i u bs (by omega) hu hb

theorem CI.put {w : World} {ls : List (List Int)} {k : Nat} {wr : World} {us : List Value} (h : CI w ls k wr us) {bs : List Int} (hk : ls[k]? = some bs) {w1 : World} (hb : Below wr.heap.size wr w1)
    (hg : w1.heap[wr.heap.size]? = some (.cells (bs.map (Value.int .u8)).toArray 5 (0, 0))) :
    CI w ls (k + 1) (w1.setCell ⟨w.heap.size, k, none⟩ (.slice (some ⟨wr.heap.size, 0, none⟩) bs.length bs.length)) (us.set k (.slice (some ⟨wr.heap.size, 0, none⟩) bs.length bs.length)) := by
  obtain ⟨h1, h2, h3, h4, h5, h6⟩ := h
  have hlt := (List.getElem?_eq_some_iff.1 hk).1
  have hs1 : wr.heap.size < w1.heap.size := (Array.getElem?_eq_some_iff.1 hg).1
  have hG : w1.heap[w.heap.size]? = some (.cells us.toArray 38 (0, 0)) := by rw [hb.block _ h6]; exact h2
  have hsz : (w1.setCell ⟨w.heap.size, k, none⟩ (.slice (some ⟨wr.heap.size, 0, none⟩) bs.length bs.length)).heap.size = w1.heap.size := by simp [World.setCell]
  have hcell : ∀ b o, b ≠ w.heap.size → (w1.setCell ⟨w.heap.size, k, none⟩ (.slice (some ⟨wr.heap.size, 0, none⟩) bs.length bs.length)).cell? ⟨b, o, none⟩ = w1.cell? ⟨b, o, none⟩ := by
    intro b o hne
    exact World.cell?_of_block (a := ⟨b, o, none⟩) (Below.heap_setCell _ _ _ _ hne)
  refine ⟨by rw [List.length_set]; exact h1, ?_, ?_, ?_, (h5.trans (hb.mono (by omega))).setCell (p := ⟨w.heap.size, k, none⟩) (Nat.le_refl _) _, by rw [hsz]; omega⟩
  · rw [heap_setCell_same _ _ _ _ _ _ hG]; simp
  · intro i u bs' hi hu hb'
    rw [hsz]
    by_cases e : i = k
    · subst e
      rw [hk] at hb'
      injection hb' with hb'
      subst hb'
      rw [List.getElem?_set_self (by omega)] at hu
      injection hu with hu
      subst hu
      refine ⟨_, _, rfl, Nat.le_refl _, by simp, fun _ => ⟨wr.heap.size, 0, rfl, hs1, fun j x hx => ?_⟩⟩
      rw [hcell _ _ (by omega), cell_of_row _ _ _ _ _ _ hg, Nat.zero_add]
      simp [hx]
    · rw [List.getElem?_set_ne (by omega)] at hu
      obtain ⟨ao, c, rfl, p1, p2, p3⟩ := h3 i u bs' (by omega) hu hb'
      refine ⟨ao, c, rfl, p1, p2, fun hne => ?_⟩
      obtain ⟨b, o, rfl, hb1, hc⟩ := p3 hne
      refine ⟨b, o, rfl, by omega, fun j x hx => ?_⟩
      have hc' := hc j x hx
      have hbne : b ≠ w.heap.size := by
        intro e
        subst e
        rw [cell_of_row _ _ _ _ _ _ h2] at hc'
        have hx' : us[o + j]? = some (.int .u8 x) := by simpa using hc'
        have hi' := (List.getElem?_eq_some_iff.1 hx').1
        by_cases hik : o + j < k
        · obtain ⟨_, _, e, _⟩ := h3 (o + j) _ _ hik hx' (List.getElem?_eq_getElem (by omega))
          cases e
        · rw [h4 (o + j) (by omega) (by omega)] at hx'
          cases hx'
      rw [hcell _ _ hbne, hb.cell (p := ⟨b, o + j, none⟩) hb1]; exact hc'
  · intro i hi hl
    rw [List.getElem?_set_ne (by omega)]
    exact h4 i (by omega) hl

theorem CI.pieces {w : World} {ls : List (List Int)} {wr : World} {us : List Value} (h : CI w ls ls.length wr us) : Pieces wr.heap.size wr (.slice (some ⟨w.heap.size, 0, none⟩) ls.length ls.length) ls := by
  obtain ⟨h1, h2, h3, h4, h5, h6⟩ := h
  refine ⟨_, _, rfl, Nat.le_refl _, by simp, fun _ => ⟨w.heap.size, 0, rfl, fun i bs hi => ?_⟩⟩
  have hlt := (List.getElem?_eq_some_iff.1 hi).1
  have hu : us[i]? = some us[i] := List.getElem?_eq_getElem (by omega)
  refine ⟨us[i], ?_, h3 i _ bs hlt hu hi⟩
  rw [cell_of_row _ _ _ _ _ _ h2, Nat.zero_add]
  simp

theorem size5' : (Try.prog.info? 5).map (·.size) = some 1 := by kernel_rfl
theorem cell_up {w : World} {o : Obj} {a : Addr} {v : Value} (h : w.cell? a = some v) : (w.alloc o).cell? a = some v := by
  rw [World.cell?_alloc_lt _ _ _ (World.block_lt_of_cell? w _ h)]; exact h
/-- The slot that is stored into. -/
theorem CI.slot {w : World} {ls : List (List Int)} {k : Nat} {wr : World} {us : List Value} (h : CI w ls k wr us) {w1 : World} (hb : Below wr.heap.size wr w1) (hk : k < ls.length) :
    w1.cell? ⟨w.heap.size, k, none⟩ = some (.slice none 0 0) ∧ w1.frozen? ⟨w.heap.size, k, none⟩ = false := by
  obtain ⟨h1, h2, h3, h4, h5, h6⟩ := h
  have hG : w1.heap[w.heap.size]? = some (.cells us.toArray 38 (0, 0)) := by rw [hb.block _ h6]; exact h2
  refine ⟨?_, frozen_of_row _ _ _ _ _ hG⟩
  rw [cell_of_row _ _ _ _ _ _ hG]
  simpa using h4 k (Nat.le_refl _) hk

theorem splice_all {α : Type} (L cs : List α) (h : L.length = cs.length) : splice L 0 cs = cs := by
  rw [splice, List.take_zero, List.nil_append, Nat.zero_add, List.drop_eq_nil_of_le (by omega), List.append_nil]

set_option maxHeartbeats 1000000 in
theorem clone_nil {w : World} : Calls Try.prog 17 #[.slice none 0 0] w fun e w' => Cloned [] w e w' := by
  have e33 := fun (W : World) (a : Option Addr) (n c : Nat) => Lib.run_eql_slice_nil (P := Try.prog) W 33 38 a n c 0 0 Try.underlying33
  go_enter Try.func17, Try.ntmps17
  go_wp2
  go_ret
  exact ⟨_, rfl, ⟨none, 0, rfl, Nat.le_refl _, fun _ => rfl, fun h => absurd rfl h⟩, Below.refl _ _⟩

set_option maxHeartbeats 1000000 in
theorem clone_some {N : Nat} {w : World} {ls : List (List Int)} {ad : Addr} {cap : Nat} (hrow : PRow N w (some ad) ls) (hN : N ≤ w.heap.size) (ht : tot ls ≤ 1048576) (hn : ls.length ≤ 1048576) :
    Calls Try.prog 17 #[.slice (some ad) ls.length cap] w fun e w' => Cloned ls w e w' := by
  have HR := hid hrow; clear hrow
  have e33 := fun (W : World) (a : Option Addr) (n c : Nat) => Lib.run_eql_slice_nil (P := Try.prog) W 33 38 a n c 0 0 Try.underlying33
  have e38 := fun (W : World) (a : Option Addr) (n c : Nat) => Lib.run_eql_slice_nil (P := Try.prog) W 38 5 a n c 0 0 Try.underlying38
  have hmk := run_make_row' (P := Try.prog) 33 38 (.slice none 0 0) 24 Try.underlying33 info38 rfl .i64 .i64 ls.length (by omega) (by omega)
  have ST := hid (CI.start w ls)
  go_enter Try.func17, Try.ntmps17
  go_wp2_with fail
  go_loopw [14] (fun i wr => ∃ k : Nat, k ≤ ls.length ∧ i = .int .i64 k ∧ Hid (∃ us, CI w ls k wr us)) (fun i _ => ls.length - (intOf i).toNat)
  case atStart => exact ⟨0, by omega, rfl, hid ⟨_, ST.out⟩⟩
  case round =>
    clear ST hmk e33
    obtain ⟨k, hk, rfl, F⟩ := hrel
    have b0 : (0 : Int) ≤ (k : Int) := by omega
    obtain ⟨us, hci⟩ := F.out
    clear F
    by_cases hlt : k < ls.length
    · obtain ⟨b, o, bs, a, c, hao, hbs, hcell, hpc⟩ := (HR.out.below hci.2.2.2.2.1 hN).at hlt
      injection hao with hao
      subst hao
      have hle := tot_at_le ls k bs hbs
      have b1 : (k : Int) < (ls.length : Int) := by omega
      cases a with
      | none =>
        have he : bs = [] ∧ c = 0 := by
          obtain ⟨ao', c', e, h1, h2, _⟩ := hpc
          injection e with e1 e2 e3
          have h3 := h2 e1.symm
          exact ⟨List.eq_nil_of_length_eq_zero (by omega), by omega⟩
        obtain ⟨rfl, rfl⟩ := he
        have G := hid (hci.pass hbs)
        clear hci hbs hpc
        go_wp2_with fail
        go_roundw
        case rel => exact ⟨k + 1, by omega, by go_num, hid ⟨us, G.out⟩⟩
        case measure => simp [intOf]; omega
      | some ad =>
        have hmk := run_make_row' (P := Try.prog) 38 5 (.int .u8 0) 1 Try.underlying38 info5 rfl .i64 .i64 bs.length (by omega) (by omega)
        have G := hid (And.intro hci (And.intro hbs hpc))
        clear hci hbs hpc
        go_wp2_with (first
          | (refine wpList_copy_splice rfl (.tmp 24) (.tmp 25) 38 38 rfl 5 Try.underlying38 size5' (some ⟨wr.heap.size, 0, none⟩) (some ad) bs.length bs.length bs.length c rfl rfl wr.heap.size 0 (List.replicate bs.length (.int .u8 0)) 5 (by rw [← made_list]; exact heap_alloc_new _ _) (bs.map (Value.int .u8)) (by simp) (fun _ => ⟨rfl, ad, rfl, fun j u hu => cell_up (news_of G.out.2.2 j u hu)⟩) (by simp) (bytes_one' bs) wr.heap.size wr ((Below.refl _ _).alloc (Nat.le_refl _) _) (Nat.le_refl _) ?_; intro w1 hg1 hb1; obtain ⟨q0, q1⟩ := G.out.1.slot hb1 hlt; have A := hid (And.intro hb1 hg1.out); clear hb1 hg1 hcell hmk))
        have hg2 := A.out.2
        rw [splice_all _ _ (by simp)] at hg2
        have HG := hid (G.out.1.put G.out.2.1 A.out.1 hg2)
        clear hg2
        go_roundw
        case rel => exact ⟨k + 1, by omega, by go_num, hid ⟨_, HG.out⟩⟩
        case measure => simp [intOf]; omega
    · obtain rfl : k = ls.length := by omega
      have G := hid hci; clear hci
      go_wp2_with fail
      go_ret
      exact ⟨_, rfl, G.out.pieces, G.out.2.2.2.2.1⟩

theorem clone_any {N : Nat} {w : World} {v : Value} {ls : List (List Int)} (h : Pieces N w v ls) (hN : N ≤ w.heap.size) (ht : tot ls ≤ 1048576) (hn : ls.length ≤ 1048576) :
    Calls Try.prog 17 #[v] w fun e w' => Cloned ls w e w' := by
  obtain ⟨ao, cap, rfl, hcap, hnil, hrow⟩ := h
  cases ao with
  | none =>
    have h0 := hnil rfl
    subst h0
    obtain rfl : ls = [] := List.eq_nil_of_length_eq_zero (by omega)
    exact clone_nil
  | some ad => exact clone_some hrow hN ht hn

end Go.Proofs.Qxb6002688a
