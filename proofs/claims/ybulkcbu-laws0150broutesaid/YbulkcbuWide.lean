/-
  LAWS FOR WIDE STRUCTS: the zero values behind plain names; a result that lies in a wide cell; new blocks as ranges.
-/
import Derived.Test.YbulkcbuSvc
import Derived.Deep.MidRow
namespace Go.Proofs.Ybulkcbu
open Go.RowKit

/-- No forwarding, as a signal carries it: 17 cells. -/
def noFwd : List Value := List.replicate 17 (.int .u8 0)
/-- An empty step of the ladder: 45 cells. -/
def zstep : List Value := [.int .u8 0, .int .u8 0, .slice none 0 0, .int .u8 0, .int .u64 0, .int .u64 0, .int .u8 0, .int .u8 0, .int .u8 0, .int .u8 0, .bool false] ++ noFwd ++ noFwd

theorem zero81 : (Yba.prog.info? 81).map (fun i => (i.zero, i.size)) = some (some (.agg noFwd.toArray), 17) := by kernel_rfl
theorem zero85 : (Yba.prog.info? 85).map (fun i => (i.zero, i.size)) = some (some (.agg zstep.toArray), 45) := by kernel_rfl
theorem size81 : (Yba.prog.info? 81).map (·.size) = some noFwd.length := by kernel_rfl
theorem size85 : (Yba.prog.info? 85).map (·.size) = some zstep.length := by kernel_rfl

theorem zstep_one : ∀ v ∈ zstep, v.oneCell' = true := by decide +kernel
theorem noFwd_one : ∀ v ∈ noFwd, v.oneCell' = true := by decide +kernel

section
variable {P : Program}

/-- 'alloc ty', ty WIDE: the new block is known whole, the world is a letter. -/
theorem wpList_alloc_wide {ops : Array Oper} {rest : List Oper} {o : Oper} {a : Act} {w : World} {Q : Exit → Act → World → Prop} (hgd : o.guard = none) (ty : TypeId) (ho : o.op = .alloc ty) (cs : List Value) (n : Nat)
    (hz : (P.info? ty).map (fun i => (i.zero, i.size)) = some (some (.agg cs.toArray), n))
    (h : ∀ w', w'.heap[w.heap.size]? = some (.cells cs.toArray ty (0, 0)) → Below w.heap.size w w' → w.heap.size < w'.heap.size → wpList P ops Q rest (a.put o.dst (.pointer (some ⟨w.heap.size, 0, none⟩))) w') : wpList P ops Q (o :: rest) a w := by
  refine wpList_plain hgd fun K hK => ?_
  have hz' : (zeroValue ty).run P w = .ok (.agg cs.toArray) w := by
    cases hq : P.info? ty with
    | none => simp [hq] at hz
    | some i =>
      simp [hq] at hz
      simp [zeroValue, typeInfo, hq, hz.1]
  have h' := h (w.alloc (.cells cs.toArray ty)) (heap_alloc_new w _) ((Below.refl _ _).alloc (Nat.le_refl _) _) (by simp)
  unfold Oper.wp execOp
  simp only [ho, Instr.alloc, Sem.run_bind, hz', Result.andThen_ok, newVar, newRow, Value.cells]
  simp
  exact hK _ _ h'

/-- 'box ty x', ty WIDE. -/
theorem wpList_box_wide {ops : Array Oper} {rest : List Oper} {o : Oper} {a : Act} {w : World} {Q : Exit → Act → World → Prop} (hgd : o.guard = none) (ty : TypeId) (x : Operand) (ho : o.op = .box ty x) (cs : Array Value) (hx : a.eval x = .agg cs)
    (h : ∀ w', w'.heap[w.heap.size]? = some (.cells cs ty (0, 0)) → Below w.heap.size w w' → w.heap.size < w'.heap.size → wpList P ops Q rest (a.put o.dst (.pointer (some ⟨w.heap.size, 0, none⟩))) w') : wpList P ops Q (o :: rest) a w := by
  refine wpList_plain hgd fun K hK => ?_
  have h' := h (w.alloc (.cells cs ty)) (heap_alloc_new w _) ((Below.refl _ _).alloc (Nat.le_refl _) _) (by simp)
  unfold Oper.wp execOp
  simp only [ho, hx, Instr.box, Sem.run_bind, newVar, newRow, Value.cells]
  simp
  exact hK _ _ h'

/-- 'build ty ..', its value known. -/
theorem wpList_build_wide {ops : Array Oper} {rest : List Oper} {o : Oper} {a : Act} {w : World} {Q : Exit → Act → World → Prop} (hgd : o.guard = none) (ty : TypeId) (parts : Array (Nat × Operand)) (ho : o.op = .build ty parts) (v : Value)
    (hr : (Instr.build ty (parts.map fun (i, x) => (i, a.eval x))).run P w = .ok v w)
    (h : wpList P ops Q rest (a.put o.dst v) w) : wpList P ops Q (o :: rest) a w := by
  refine wpList_plain hgd fun K hK => ?_
  unfold Oper.wp execOp
  simp only [ho, Sem.run_bind, hr, Result.andThen_ok, Sem.run_pure]
  exact hK _ _ h

/-- A WIDE STORE INTO A BLOCK THAT IS KNOWN WHOLE: the world is a letter. -/
theorem wpList_store_wide {ops : Array Oper} {rest : List Oper} {o : Oper} {a : Act} {w : World} {Q : Exit → Act → World → Prop} (hgd : o.guard = none) (ty : TypeId) (x y : Operand) (ho : o.op = .store ty x y)
    (b : Nat) (old : Array Value) (t0 : TypeId) (cs : List Value) (hb : w.heap[b]? = some (.cells old t0 (0, 0))) (hx : a.eval x = .pointer (some ⟨b, 0, none⟩)) (hy : a.eval y = .agg cs.toArray)
    (hs : old.size = cs.length) (hi : (P.info? ty).map (·.size) = some cs.length) (h1 : ∀ v ∈ cs, v.oneCell' = true)
    (h : ∀ w', w'.heap[b]? = some (.cells cs.toArray t0 (0, 0)) → w.grownBy w' (some b) → wpList P ops Q rest (a.put o.dst undef) w') : wpList P ops Q (o :: rest) a w := by
  refine wpList_plain hgd fun K hK => ?_
  have hst := run_storeCells_at P b 0 t0 cs 0 old w hb (by omega) h1
  cases hq : P.info? ty with
  | none => simp [hq] at hi
  | some i =>
    have hsz : cs.length = i.size := by simp [hq] at hi; omega
    have hrun : (Instr.storeAt ty (.pointer (some ⟨b, 0, none⟩)) (.agg cs.toArray)).run P w = .ok () (w.setRow b (old.toList.take 0 ++ cs ++ old.toList.drop (0 + cs.length)).toArray) := by
      simp only [Nat.add_zero] at hst
      simp [Instr.storeAt, Instr.sureAddr, storeVar, sizeOf, typeInfo, hq, Value.cells, hsz]
      simpa [hsz] using hst
    have e : (old.toList.take 0 ++ cs ++ old.toList.drop (0 + cs.length)) = cs := by
      rw [List.drop_eq_nil_of_le (by simp; omega)]; simp
    rw [e] at hrun
    have h' := h (w.setRow b cs.toArray) (setRow_heap w b old _ t0 _ hb) ⟨rfl, rfl, rfl, by simp, fun k _ hk => setRow_other w b k _ (fun e => hk (by simp [e]))⟩
    unfold Oper.wp execOp
    simp only [ho, hx, hy, Sem.run_bind, hrun, Result.andThen_ok, Sem.run_pure]
    exact hK _ _ h'
end

end Go.Proofs.Ybulkcbu
