/-
  OPERATIONS ON WHOLE ROWS, AS THE WALK MEETS THEM: a new variable by its zero value's name, a store into a row, a struct built out of an array.
-/
import Derived.Test.Qxb6002688aCmp
import Derived.Deep.WholeRow
namespace Go.Proofs.Qxb6002688a
open Go.RowKit

section
variable {P : Program}

theorem wpList_alloc_as {ops : Array Oper} {rest : List Oper} {o : Oper} {a : Act} {w : World} {Q : Exit → Act → World → Prop} (hgd : o.guard = none) (ty : TypeId) (ho : o.op = .alloc ty)
    (C : Array Value) (hz : ∀ w, (zeroValue ty).run P w = .ok (.agg C) w)
    (h : wpList P ops Q rest (a.put o.dst (.pointer (some ⟨w.heap.size, 0, none⟩))) (w.alloc (.cells C ty))) : wpList P ops Q (o :: rest) a w := by
  refine wpList_plain hgd fun K hK => ?_
  unfold Oper.wp execOp
  simp only [ho, Instr.alloc, Sem.run_bind, hz w, Result.andThen_ok]
  exact hK _ _ h

theorem wpList_build_as {ops : Array Oper} {rest : List Oper} {o : Oper} {a : Act} {w : World} {Q : Exit → Act → World → Prop} (hg : o.guard = none) (t : TypeId) (parts : Array (Nat × Operand)) (ho : o.op = .build t parts)
    (ps : List (Nat × Value)) (hps : parts.toList.map (fun q => (q.1, a.eval q.2)) = ps) (C : Array Value) (hb : P.built t ps = some C)
    (h : wpList P ops Q rest (a.put o.dst (.agg C)) w) : wpList P ops Q (o :: rest) a w := by
  have e : (parts.map fun (i, x) => (i, a.eval x)).toList = ps := by rw [← hps, Array.toList_map]
  exact wpList_build hg t parts ho (by rw [e, hb]; rfl) (by rw [e, hb]; exact h)

/-- A whole row is read, by an operation whose guard says yes. -/
theorem wpList_load_want {ops : Array Oper} {rest : List Oper} {o : Oper} {a : Act} {w : World} {Q : Exit → Act → World → Prop} (ty : TypeId) (x : Operand) (ho : o.op = .load ty x) (hw : Region.wanted o (yielded ops a.tmps) = true)
    (g : Nat) (hx : a.eval x = .pointer (some ⟨g, 0, none⟩)) (t : TypeId) (cs : Array Value) (fr : Nat × Nat) (d : TypeDesc) (hg : w.heap[g]? = some (.cells cs t fr))
    (hu : P.underlying ty = some d) (hd : (match d with | .struct _ | .array _ _ => true | _ => false) = true) (hi : (P.info? ty).map (·.size) = some cs.size)
    (h : wpList P ops Q rest (a.put o.dst (.agg cs)) w) : wpList P ops Q (o :: rest) a w := by
  rw [wpList, if_pos hw]
  exact .inl (wp_load_row ty x ho g hx t cs fr d hg hu hd hi h)

/-- A store of a whole row into the block that was made last. -/
theorem wpList_store_last {ops : Array Oper} {rest : List Oper} {o : Oper} {a : Act} {w : World} {Q : Exit → Act → World → Prop} (hgd : o.guard = none) (ty : TypeId) (x y : Operand) (ho : o.op = .store ty x y)
    (t : TypeId) (old cells : Array Value) (g : Nat) (hg : g = w.heap.size) (hx : a.eval x = .pointer (some ⟨g, 0, none⟩)) (hy : a.eval y = .agg cells)
    (hi : (P.info? ty).map (·.size) = some cells.size) (hold : old.size = cells.size) (h1 : cells.all (·.oneCell') = true) (hdst : o.dst = none)
    (h : wpList P ops Q rest a (w.alloc (.cells cells t))) : wpList P ops Q (o :: rest) a (w.alloc (.cells old t)) := by
  subst hg
  refine wpList_store_row hgd ty x y ho w.heap.size cells hx hy t old (heap_alloc_new w _) hi hold h1 ?_
  rw [World.setRow_alloc_new, hdst]
  exact h

end

theorem bytes_one (l : List Int) : (bytes l).all (·.oneCell') = true := by
  refine all_oneCell_toArray ?_
  intro v hv
  obtain ⟨x, _, rfl⟩ := List.mem_map.1 hv
  rfl

/-- A record's cells. -/
def recC (t : Int) (l : List Int) : Array Value := (Value.int .u64 t :: l.map (Value.int .u8)).toArray
/-- A bound's cells. -/
def bndC (t : Int) (l : List Int) (p : Int) : Array Value := (Value.int .u64 t :: (l.map (Value.int .u8) ++ [.int .i64 p])).toArray
theorem recC_size (t : Int) (l : List Int) : (recC t l).size = l.length + 1 := by simp [recC]
theorem bndC_size (t : Int) (l : List Int) (p : Int) : (bndC t l p).size = l.length + 2 := by simp [bndC]
theorem recC_zero (t : Int) (l : List Int) : (recC t l)[0]? = some (.int .u64 t) := by simp [recC]
theorem recC_at (t : Int) (l : List Int) (i : Nat) (x : Int) (h : l[i]? = some x) : (recC t l)[1 + i]? = some (.int .u8 x) := by
  rw [Nat.add_comm]; simp [recC, h]
theorem recC_one (t : Int) (l : List Int) : (recC t l).all (·.oneCell') = true := by
  refine all_oneCell_toArray ?_
  intro v hv
  rcases List.mem_cons.1 hv with rfl | hv
  · rfl
  · obtain ⟨x, _, rfl⟩ := List.mem_map.1 hv
    rfl
theorem bndC_one (t : Int) (l : List Int) (p : Int) : (bndC t l p).all (·.oneCell') = true := by
  refine all_oneCell_toArray ?_
  intro v hv
  rcases List.mem_cons.1 hv with rfl | hv
  · rfl
  · rcases List.mem_append.1 hv with hv | hv
    · obtain ⟨x, _, rfl⟩ := List.mem_map.1 hv
      rfl
    · simp at hv; subst hv; rfl

/-- Zeros. -/
def zeros : List Int := List.replicate 32 0
theorem zeros_length : zeros.length = 32 := by simp [zeros]
theorem zero52 (w : World) : (zeroValue 52).run Try.prog w = .ok (.agg (bndC 0 zeros 0)) w := by rw [Try.zeroValue52]; kernel_rfl
theorem zero25 (w : World) : (zeroValue 25).run Try.prog w = .ok (.agg (bytes zeros)) w := by rw [Try.zeroValue25]; kernel_rfl
theorem zero23 (w : World) : (zeroValue 23).run Try.prog w = .ok (.agg (bytes zeros)) w := by rw [Try.zeroValue23]; kernel_rfl
theorem zero27 (w : World) : (zeroValue 27).run Try.prog w = .ok (.agg (recC 0 zeros)) w := by rw [Try.zeroValue27]; kernel_rfl
theorem size52 : (Try.prog.info? 52).map (·.size) = some 34 := by kernel_rfl
theorem size27 : (Try.prog.info? 27).map (·.size) = some 33 := by kernel_rfl
theorem size25 : (Try.prog.info? 25).map (·.size) = some 32 := by kernel_rfl
theorem size23 : (Try.prog.info? 23).map (·.size) = some 32 := by kernel_rfl
theorem built52a (t : Int) : Try.prog.built 52 [(0, .int .u64 t)] = some (bndC t zeros 0) := by kernel_rfl
theorem built52b (t p : Int) : Try.prog.built 52 [(0, .int .u64 t), (2, .int .i64 p)] = some (bndC t zeros p) := by kernel_rfl

theorem built27_fn (t : Int) (f : Nat → Int) : Try.prog.built 27 [(0, .int .u64 t), (1, .agg (bytes ((List.range 32).map f)))] = some (recC t ((List.range 32).map f)) := by kernel_rfl
theorem list_fn (n : Nat) (l : List Int) (h : l.length = n) : l = (List.range n).map (fun i => l.getD i 0) := by
  apply List.ext_getElem?
  intro i
  by_cases hi : i < n
  · simp [List.getElem?_range hi, List.getD, List.getElem?_eq_getElem (show i < l.length by omega)]
  · simp [List.getElem?_eq_none (show (List.range n).length ≤ i by simp; omega), List.getElem?_eq_none (show l.length ≤ i by omega)]
theorem built27 (t : Int) (l : List Int) (h : l.length = 32) : Try.prog.built 27 [(0, .int .u64 t), (1, .agg (bytes l))] = some (recC t l) := by
  rw [list_fn 32 l h]
  exact built27_fn t _

end Go.Proofs.Qxb6002688a
