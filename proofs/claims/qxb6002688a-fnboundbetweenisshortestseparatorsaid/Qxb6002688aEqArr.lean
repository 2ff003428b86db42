/-
  '==' ON TWO ARRAYS OF 32 BYTES THAT ARE ONE.
-/
import Derived.Test.Qxb6002688aOps
import Derived.ChangeKeysEq
import Derived.Laws.StructEq
namespace Go.Proofs.Qxb6002688a
open Go.RowKit

theorem eq_items (d : Nat) (l : List Int) (h : l.length = 32) (w : World) : ∀ is : List Nat, (∀ i ∈ is, i < 32) → (Op.eqItems (d + 1) 5 1 (bytes l) (bytes l) is).run Try.prog w = .ok true w
  | [], _ => by simp [Op.eqItems]
  | i :: is, hi => by
    have hlt := hi i (by simp)
    have hc : (bytes l)[i]? = some (.int .u8 (l.getD i 0)) := by
      rw [bytes_at, List.getElem?_eq_getElem (by omega)]; simp [List.getD, List.getElem?_eq_getElem (show i < l.length by omega)]
    have hp : (part 5 (bytes l) (i * 1)).run Try.prog w = .ok (.int .u8 (l.getD i 0)) w := by
      simp [part, isAgg, run_underlying Try.underlying5, hc]
    have he := run_equalIn_int w d 5 .u8 .u8 (l.getD i 0) (l.getD i 0) Try.underlying5
    simp only [Op.eqItems, Sem.run_bind, hp, Result.andThen_ok, he]
    simpa using eq_items d l h w is (fun j hj => hi j (by simp [hj]))

theorem eq_arr (l : List Int) (h : l.length = 32) (w : World) : (Op.equalIn 10000 23 (.agg (bytes l)) (.agg (bytes l))).run Try.prog w = .ok true w := by
  obtain ⟨i, hi⟩ := info_of_underlying Try.underlying5
  rw [run_equalIn_array w 9999 (bytes l) (bytes l) Try.underlying23 hi]
  exact eq_items 9998 l h w _ (fun i hi => by simpa using hi)

end Go.Proofs.Qxb6002688a
