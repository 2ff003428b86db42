/-
  zzFlatten, WALKED.
-/
import Derived.Test.Qxb6002688aReads
import Derived.Laws.AppendOwnNone
namespace Go.Proofs.Qxb6002688a
open Go.RowKit

theorem info5 : (Try.prog.info? 5).map (fun i => (i.zero, i.size, i.bytes)) = some (some (.int .u8 0), 1, 1) := by kernel_rfl

/-- What zzFlatten leaves, its new block told. -/
def FlatF (bs : List Int) (w : World) (e : Ending) (w' : World) : Prop :=
  ∃ b c, e = .returned (.slice (some ⟨b, 0, none⟩) bs.length c) ∧ Piece w'.heap.size w' (.slice (some ⟨b, 0, none⟩) bs.length c) bs ∧ Below w.heap.size w w' ∧ w.heap.size ≤ b ∧ bs.length ≤ c
/-- What zzFlatten leaves. -/
def Flat (bs : List Int) (w : World) (e : Ending) (w' : World) : Prop := ∃ u, e = .returned u ∧ Piece w'.heap.size w' u bs ∧ Below w.heap.size w w'

/-- What holds at the head of the loop. -/
def FI (w : World) (done : List (List Int)) (wr : World) (v : Value) : Prop :=
  wr.ownsRow w.heap.size 5 1 v (tot done) (done.flatten.map (Value.int .u8)) ∧ Below w.heap.size w wr ∧ v ≠ .slice none 0 0

theorem FI.pass {w : World} {done : List (List Int)} {wr : World} {v : Value} (h : FI w done wr v) : FI w (done ++ [[]]) wr v := by
  obtain ⟨h1, h2⟩ := h
  refine ⟨?_, h2⟩
  rw [tot_append]; simpa [tot] using h1
theorem FI.add {w : World} {done : List (List Int)} {wr w1 : World} {v v' : Value} {bs : List Int} (h : FI w done wr v) (ho : w1.ownsRow w.heap.size 5 1 v' (tot done + bs.length) (done.flatten.map (Value.int .u8) ++ bs.map (Value.int .u8))) (hg : wr.grownBy w1 v.ownBlock) (hv : v' = .slice none 0 0 ↔ v = .slice none 0 0 ∧ bs.length = 0) : FI w (done ++ [bs]) w1 v' := by
  obtain ⟨h1, h2, h3⟩ := h
  refine ⟨?_, h2.grown hg h2.size (fun k hk => (h1.lt k hk).1), fun e => h3 (hv.1 e).1⟩
  rw [tot_append]; simpa [tot] using ho
theorem FI.piece {w : World} {done : List (List Int)} {wr : World} {v : Value} (h : FI w done wr v) :
    ∃ b c, v = .slice (some ⟨b, 0, none⟩) done.flatten.length c ∧ Piece wr.heap.size wr (.slice (some ⟨b, 0, none⟩) done.flatten.length c) done.flatten ∧ w.heap.size ≤ b ∧ done.flatten.length ≤ c := by
  obtain ⟨h1, _, h3⟩ := h
  rw [tot_flatten] at h1
  rcases h1.2 with ⟨rfl, h0⟩ | ⟨g, cap, cur, rfl, hbg, hh, hle, _, _, htake⟩
  · exact absurd rfl h3
  · refine ⟨g, cap, rfl, ⟨some ⟨g, 0, none⟩, cap, rfl, hle, by simp, fun _ => ⟨g, 0, rfl, (Array.getElem?_eq_some_iff.1 hh).1, fun j x hx => ?_⟩⟩, hbg, hle⟩
    rw [cell_of_row _ _ _ _ _ _ hh, Nat.zero_add]
    have hj := (List.getElem?_eq_some_iff.1 hx).1
    have ht := congrArg (fun l : List Value => l[j]?) htake
    simp only [List.getElem?_take, List.getElem?_map, hx] at ht
    rw [if_pos (by omega)] at ht
    simpa using ht

theorem news_of {N : Nat} {w : World} {ad : Addr} {c : Nat} {bs : List Int} (h : Piece N w (.slice (some ad) bs.length c) bs) : ∀ j u, (bs.map (Value.int .u8))[j]? = some u → w.cell? (ad.add j) = some u := by
  intro j u hu
  obtain ⟨ao, cap, e, _, _, h3⟩ := h
  injection e with e1 e2 e3
  rw [List.getElem?_map] at hu
  obtain ⟨x, hx, rfl⟩ := Option.map_eq_some_iff.1 hu
  obtain ⟨b, o, rfl, _, hc⟩ := h3 (by intro e; rw [e] at hx; simp at hx)
  injection e1 with e1
  subst e1
  rw [Addr.add_mid]
  exact hc j x hx
theorem bytes_one' (bs : List Int) : ∀ u ∈ bs.map (Value.int .u8), u.oneCell' = true := by
  intro v hv
  obtain ⟨x, _, rfl⟩ := List.mem_map.1 hv
  rfl

set_option maxHeartbeats 1000000 in
theorem flatten_fresh {N : Nat} {w : World} {v : Value} {ls : List (List Int)} (h : Pieces N w v ls) (hN : N ≤ w.heap.size) (ht : tot ls ≤ 1048576) (hn : ls.length ≤ 1048576) :
    Calls Try.prog 18 #[v] w fun e w' => FlatF ls.flatten w e w' := by
  have HC := hid (total_any h ht hn)
  obtain ⟨ao, cap, rfl, hcap, hnil, hrow⟩ := h
  have HR := hid hrow; clear hrow hnil
  obtain ⟨i0, hi, hz0, hz1, hz2⟩ := info_parts info5
  have HI := hid (And.intro hi (And.intro hz0 (And.intro hz1 hz2)))
  clear hi hz0 hz1 hz2
  go_enter Try.func18, Try.ntmps18
  go_wp2_with fail
  refine HC.out.mono ?_
  rintro e w1 ⟨rfl, rfl⟩
  clear HC
  go_wp2_with (first
    | (at_make; refine wpList_make_own _ rfl (.const (.int .i64 0)) (.tmp 7) 38 rfl w1.heap.size 5 i0 (.int .u8 0) 1 Try.underlying38 HI.out.1 HI.out.2.1 HI.out.2.2.1 .i64 .i64 _ (tot ls) rfl rfl rfl (by rw [HI.out.2.2.2]; omega) (by unfold maxLen; omega) (Nat.le_refl _) ?_; intro w2 hown hgrow; have ST := hid (And.intro hown hgrow); clear hown hgrow))
  go_loopw [3, 11] (fun t i wr => ∃ k : Nat, k ≤ ls.length ∧ i = .int .i64 k ∧ Hid (FI w1 (ls.take k) wr t)) (fun _ i _ => ls.length - (intOf i).toNat)
  case atStart => exact ⟨0, by omega, rfl, hid ⟨ST.out.1, (Below.refl _ _).grown ST.out.2 (Nat.le_refl _) (by simp), by simp⟩⟩
  case round =>
    clear ST
    obtain ⟨k, hk, rfl, F⟩ := hrel
    have b0 : (0 : Int) ≤ (k : Int) := by omega
    by_cases hlt : k < ls.length
    · obtain ⟨b, o, bs, a, c, rfl, hbs, hcell, hpc⟩ := (HR.out.below F.out.2.1 hN).at hlt
      have HS := hid (take_snoc ls k bs hbs)
      have hle := tot_at_le ls k bs hbs
      have HP := hid hpc
      clear hbs hpc
      cases a with
      | none =>
        have he : bs = [] ∧ c = 0 := by
          obtain ⟨ao', c', e, h1, h2, _⟩ := HP.out
          injection e with e1 e2 e3
          have h3 := h2 e1.symm
          exact ⟨List.eq_nil_of_length_eq_zero (by omega), by omega⟩
        obtain ⟨rfl, rfl⟩ := he
        go_wp2_with (first
          | (at_builtin; refine wpList_append_own_none rfl (.tmp 15) (.tmp 16) 38 rfl w1.heap.size 5 i0 1 Try.underlying38 HI.out.1 _ _ _ rfl F.out.1 rfl ?_))
        go_roundw
        case rel => exact ⟨k + 1, by omega, by go_num, by rw [HS.out]; exact F.out.pass⟩
        case measure => simp [intOf]; omega
      | some ad =>
        go_wp2_with (first
          | (at_builtin; refine wpList_append_own _ rfl (.tmp 15) (.tmp 16) 38 rfl w1.heap.size 5 i0 (.int .u8 0) 1 1 Try.underlying38 HI.out.1 HI.out.2.1 HI.out.2.2.1 HI.out.2.2.2 rfl (by decide) _ _ _ rfl F.out.1 ad bs.length c (bs.map (Value.int .u8)) rfl (by simp) (news_of HP.out) (bytes_one' bs) (by unfold maxLen; omega) (by omega) F.out.2.1.size ?_; intro v1 w3 hown1 hgrow1 hnil1; have A := hid (And.intro hown1 (And.intro hgrow1 hnil1)); clear hown1 hgrow1 hnil1 hcell))
        go_roundw
        case rel => exact ⟨k + 1, by omega, by go_num, by rw [HS.out]; exact F.out.add A.out.1 A.out.2.1 A.out.2.2⟩
        case measure => simp [intOf]; omega
    · obtain rfl : k = ls.length := by omega
      rw [List.take_length] at F
      go_wp2_with fail
      go_ret
      obtain ⟨b, c, hv, hp, hbb, hlc⟩ := F.out.piece
      exact ⟨b, c, by rw [← hv]; rfl, hp, F.out.2.1, hbb, hlc⟩

theorem flatten_any {N : Nat} {w : World} {v : Value} {ls : List (List Int)} (h : Pieces N w v ls) (hN : N ≤ w.heap.size) (ht : tot ls ≤ 1048576) (hn : ls.length ≤ 1048576) :
    Calls Try.prog 18 #[v] w fun e w' => Flat ls.flatten w e w' :=
  (flatten_fresh h hN ht hn).mono fun _ _ ⟨_, _, he, hp, hb, _⟩ => ⟨_, he, hp, hb⟩

end Go.Proofs.Qxb6002688a
