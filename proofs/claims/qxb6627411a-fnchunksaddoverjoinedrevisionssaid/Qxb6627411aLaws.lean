/-
  LAWS FOR WHOLE STRUCTS IN A WALK, over any program: a struct built, laid in a new block, stored over the block that was made last, loaded out of it, stored into the middle of a row: the cells kept under a name.
-/
import Derived.WalkKit
import Derived.OwnWalk
import Derived.Laws.CopyRow
import Derived.Laws.Tables
import Derived.Deep.WholeRow
namespace Go.Proofs.Qxb6627411a
open Go.RowKit
set_option linter.unusedSimpArgs false
set_option linter.unusedVariables false

/-- A row with a piece laid over it. -/
def over (cur : Array Value) (off : Nat) (c : Array Value) : Array Value := (cur.toList.take off ++ c.toList ++ cur.toList.drop (off + c.size)).toArray

section
variable {P : Program} {ops : Array Oper} {rest : List Oper} {o : Oper} {a : Act} {w : World} {Q : Exit → Act → World → Prop}

/-- A guard: the next operation is this one. -/
theorem op_is (p : Op) (ho : o.op = p) (h : wpList P ops Q (o :: rest) a w) : wpList P ops Q (o :: rest) a w := h

theorem wpList_value (hgd : o.guard = none) (v : Value) (w' : World) (hrun : (execOp a.eval o).run P w = .ok (.value v) w') (h : wpList P ops Q rest (a.put o.dst v) w') : wpList P ops Q (o :: rest) a w := by
  refine wpList_plain hgd fun K hK => ?_
  unfold Oper.wp
  rw [hrun]
  exact hK _ _ h

theorem wpList_skip (hgd : o.guard = none) (w' : World) (hrun : (execOp a.eval o).run P w = .ok .skip w') (h : wpList P ops Q rest (a.put o.dst undef) w') : wpList P ops Q (o :: rest) a w := by
  refine wpList_plain hgd fun K hK => ?_
  unfold Oper.wp
  rw [hrun]
  exact hK _ _ h

/-- 'new T', T a struct, the zero cells under a name. -/
theorem wpList_alloc_named (hgd : o.guard = none) (t : TypeId) (ho : o.op = .alloc t) (z : Array Value) (hz : ∀ w, (zeroValue t).run P w = .ok (.agg z) w)
    (h : wpList P ops Q rest (a.put o.dst (.pointer (some ⟨w.heap.size, 0, none⟩))) (w.alloc (.cells z t))) : wpList P ops Q (o :: rest) a w := by
  refine wpList_value hgd _ _ ?_ h
  simp only [execOp, ho, Instr.alloc, Sem.run_bind, hz, Result.andThen_ok]
  rfl

/-- A struct built, its cells under a name. -/
theorem wpList_build_named (hgd : o.guard = none) (t : TypeId) (parts : Array (Nat × Operand)) (ho : o.op = .build t parts) (ps : Array (Nat × Value)) (hps : (parts.map fun (i, x) => (i, a.eval x)) = ps) (z : Array Value)
    (hz : ∀ w, (Instr.build t ps).run P w = .ok (.agg z) w)
    (h : wpList P ops Q rest (a.put o.dst (.agg z)) w) : wpList P ops Q (o :: rest) a w := by
  refine wpList_value hgd _ _ ?_ h
  subst hps
  simp only [execOp, ho, Sem.run_bind, hz, Result.andThen_ok]
  rfl

/-- A slice of one struct. -/
theorem wpList_buildSlice_named (hgd : o.guard = none) (t e : TypeId) (parts : Array (Nat × Operand)) (n : Nat) (ho : o.op = .buildSlice t n parts) (ps : Array (Nat × Value)) (hps : (parts.map fun (i, x) => (i, a.eval x)) = ps) (z : Array Value)
    (hz : ∀ w, (Instr.buildSlice t n ps).run P w = .ok (.slice (some ⟨w.heap.size, 0, none⟩) n n) (w.alloc (.cells z e)))
    (h : wpList P ops Q rest (a.put o.dst (.slice (some ⟨w.heap.size, 0, none⟩) n n)) (w.alloc (.cells z e))) : wpList P ops Q (o :: rest) a w := by
  refine wpList_value hgd _ _ ?_ h
  subst hps
  simp only [execOp, ho, Sem.run_bind, hz, Result.andThen_ok]
  rfl

/-- A whole struct stored over the block that was made last. -/
theorem wpList_store_last (hgd : o.guard = none) (t : TypeId) (x y : Operand) (ho : o.op = .store t x y) (g : Nat) (c c' : Array Value) (hx : a.eval x = .pointer (some ⟨g, 0, none⟩)) (hy : a.eval y = .agg c') (hg : g = w.heap.size)
    (hi : (P.info? t).map (·.size) = some c'.size) (hc : c.size = c'.size) (h1 : c'.all (·.oneCell') = true)
    (h : wpList P ops Q rest (a.put o.dst undef) (w.alloc (.cells c' t))) : wpList P ops Q (o :: rest) a (w.alloc (.cells c t)) := by
  subst hg
  refine wpList_skip hgd _ ?_ h
  simp only [execOp, ho, hx, hy, Sem.run_bind, run_storeAt_new w t c c' hi hc h1, Result.andThen_ok]
  rfl

/-- A whole struct out of the block that was made last. -/
theorem wpList_load_last (hgd : o.guard = none) (t : TypeId) (x : Operand) (ho : o.op = .load t x) (g : Nat) (c : Array Value) (hx : a.eval x = .pointer (some ⟨g, 0, none⟩)) (hg : g = w.heap.size)
    (d : TypeDesc) (hu : P.underlying t = some d) (hd : (match d with | .struct _ | .array _ _ => true | _ => false) = true) (hi : (P.info? t).map (·.size) = some c.size)
    (h : wpList P ops Q rest (a.put o.dst (.agg c)) (w.alloc (.cells c t))) : wpList P ops Q (o :: rest) a (w.alloc (.cells c t)) := by
  subst hg
  exact wpList_load_row hgd t x ho w.heap.size hx t c (0, 0) d (heap_alloc_last w _) hu hd hi h

/-- A whole struct stored into the middle of a row. -/
theorem wpList_store_mid (hgd : o.guard = none) (t e : TypeId) (x y : Operand) (ho : o.op = .store t x y) (g off : Nat) (cur c' : Array Value) (hx : a.eval x = .pointer (some ⟨g, off, none⟩)) (hy : a.eval y = .agg c')
    (hg : w.heap[g]? = some (.cells cur e (0, 0))) (hi : (P.info? t).map (·.size) = some c'.size) (hc : off + c'.size ≤ cur.size) (h1 : c'.all (·.oneCell') = true)
    (h : wpList P ops Q rest (a.put o.dst undef) (w.setRow g (over cur off c'))) : wpList P ops Q (o :: rest) a w := by
  unfold over at h
  refine wpList_skip hgd _ ?_ h
  have hst := run_storeCells_at P g off e c'.toList 0 cur w hg (by simpa using hc) (fun v hv => (Array.all_eq_true_iff_forall_mem.1 h1) v (by simpa using hv))
  cases hq : P.info? t with
  | none => simp [hq] at hi
  | some i =>
    have hs : c'.size = i.size := by simp [hq] at hi; omega
    simp only [Nat.add_zero, Array.length_toList] at hst
    simp [execOp, ho, hx, hy, Instr.storeAt, Instr.sureAddr, storeVar, sizeOf, typeInfo, hq, Value.cells, hs] at hst ⊢
    rw [← hs] at hst
    simp [hst, hs]
end
end Go.Proofs.Qxb6627411a
