/-
  WHAT LawS0150BRoute's WALK CARRIES: the services asked for, the steps in variables of their own, the row of the codecs kept.
-/
import Derived.Test.YbulkcbuReady
namespace Go.Proofs.Ybulkcbu
open Go.RowKit

theorem info52 : (Yba.prog.info? 52).map (fun i => (i.zero, i.size, i.bytes)) = some (some (.int .u8 0), 1, 1) := by kernel_rfl

theorem hasB_take {S : List Nat} {s m : Nat} (h : m < S.length) : hasB (S.take (m + 1)) s = (hasB (S.take m) s || (S[m] == s)) := by
  rw [List.take_succ_eq_append_getElem h]
  have e1 : ∀ l : List Nat, hasB l s = true ↔ s ∈ l := fun l => by unfold hasB; simp
  rw [Bool.eq_iff_iff, Bool.or_eq_true, e1, e1, List.mem_append, List.mem_singleton, beq_iff_eq]
  constructor
  · rintro (h | h)
    · exact Or.inl h
    · exact Or.inr h.symm
  · rintro (h | h)
    · exact Or.inl h
    · exact Or.inr h.symm

/-- The row of the services asked for, as far as it is made. -/
structure Asked (w5 wr : World) (v : Value) (S : List Nat) : Prop where
  low : Below w5.heap.size w5 wr
  own : wr.ownsRow w5.heap.size 52 1 v S.length (u8s S)

theorem Asked.grown {w5 wr w2 : World} {v : Value} {S : List Nat} {g cap c : Nat} {X : Obj} (h : Asked w5 wr v S)
    (hown : w2.ownsRow w5.heap.size 52 1 (.slice (some ⟨g, 0, none⟩) (S.length + 1) cap) (S.length + 1) (u8s S ++ [.int .u8 (c : Int)])) (hgr : (wr.alloc X).grownBy w2 v.ownBlock) :
    Asked w5 w2 (.slice (some ⟨g, 0, none⟩) (S.length + 1) cap) (S ++ [c]) := by
  have hs := h.low.size
  refine ⟨(h.low.alloc hs X).grown hgr (by simp; omega) (fun k hk => own_block_le h.own k hk), ?_⟩
  rw [u8s_snoc, show (S ++ [c]).length = S.length + 1 from by simp]
  exact hown

/-- A step in a variable of its own. -/
def StepAt (w : World) (b : Nat) (st : List Value) : Prop := w.heap[b]? = some (.cells st.toArray 85 (0, 0))
theorem StepAt.lt {w : World} {b : Nat} {st : List Value} (h : StepAt w b st) : b < w.heap.size := by
  unfold StepAt at h
  exact (Array.getElem?_eq_some_iff.1 h).1
theorem StepAt.on {w w' : World} {b : Nat} {st : List Value} (h : StepAt w b st) (hB : Below w.heap.size w w') : StepAt w' b st := (hB.block b h.lt).trans h
theorem StepAt.cell {w : World} {b : Nat} {st : List Value} (h : StepAt w b st) {o : Nat} {u : Value} (hu : st[o]? = some u) : w.cell? ⟨b, o, none⟩ = some u := by
  rw [cell_of_row _ _ _ _ _ _ h]; simpa using hu

theorem eqs_q (S : List Nat) (q : Int) (hq : q = (pk S : Nat)) (hl : Fits S) (ao : Option Addr) (c : Nat) (w : World) (hrow : RowAt w ao S) :
    Calls Yba.prog 7 #[.agg #[.int .u64 q], .slice ao S.length c] w fun e w' => e = .returned (.bool true) ∧ Below w.heap.size w w' := by
  subst hq; exact eqs_any S hl ao c w hrow

theorem Post.step {w w5 : World} {b4 bc br b6 b7 B g cap : Nat} {p q : Int} {aw : Option Addr} {cs : List Nat} {st : List Value} (h : Post w w5 b4 bc br b6 b7 B g cap p q aw cs st) (hst : st.length = 45) :
    w5.rangeAt g 0 ((sigL 11 12 9).set 5 (.int .u64 q)) ∧ w5.rangeAt g 45 ((sigL 12 11 10).set 5 (.int .u64 q)) ∧ w5.rangeAt g 90 st := by
  have l0 : ((sigL 11 12 9).set 5 (Value.int .u64 q)).length = 45 := by simp [sigL_len]
  have l1 : ((sigL 12 11 10).set 5 (Value.int .u64 q)).length = 45 := by simp [sigL_len]
  have hown := h.own
  generalize (sigL 11 12 9).set 5 (Value.int .u64 q) = A at *
  generalize (sigL 12 11 10).set 5 (Value.int .u64 q) = C at *
  refine ⟨fun j v hj => ?_, fun j v hj => ?_, fun j v hj => ?_⟩
  · have hl := (List.getElem?_eq_some_iff.1 hj).1
    rw [hown.cellAt (0 + j) (by omega), List.append_assoc, List.getElem?_append_left (by omega), Nat.zero_add, hj]
  · have hl := (List.getElem?_eq_some_iff.1 hj).1
    rw [hown.cellAt (45 + j) (by omega), List.append_assoc, List.getElem?_append_right (by omega), l0, Nat.add_sub_cancel_left, List.getElem?_append_left (by omega), hj]
  · have hl := (List.getElem?_eq_some_iff.1 hj).1
    rw [hown.cellAt (90 + j) (by omega), List.getElem?_append_right (by simp; omega), List.length_append, l0, l1, Nat.add_sub_cancel_left, hj]

theorem sig_one (f t k : Int) (j : Nat) (u : Value) (hu : u.oneCell' = true) : ∀ v ∈ (sigL f t k).set j u, v.oneCell' = true := by
  intro v hv
  rcases List.mem_or_eq_of_mem_set hv with h | h
  · unfold sigL stepFT at h
    rcases List.mem_or_eq_of_mem_set h with h | h
    · rcases List.mem_or_eq_of_mem_set h with h | h
      · rcases List.mem_or_eq_of_mem_set h with h | h
        · exact zstep_one v h
        · subst h; rfl
      · subst h; rfl
    · subst h; rfl
  · subst h; exact hu

theorem lenS_q (S : List Nat) (q : Int) (hq : q = (pk S : Nat)) (hl : Fits S) (w : World) :
    Calls Yba.prog 8 #[.agg #[.int .u64 q]] w fun e w' => e = .returned (.int .i64 (S.length : Nat)) ∧ Below w.heap.size w w' := by
  subst hq
  refine (lenS S hl w).mono ?_
  rintro e w' ⟨h1, h2⟩
  exact ⟨h1, by rw [h2]; exact (Below.refl _ _).alloc (Nat.le_refl _) _⟩

theorem has_q (S : List Nat) (q : Int) (hq : q = (pk S : Nat)) (hl : Fits S) (v : Nat) (hv : hasB S v = true) (w : World) :
    Calls Yba.prog 11 #[.agg #[.int .u64 q], .int .u8 (v : Int)] w fun e w' => e = .returned (.bool true) ∧ Below w.heap.size w w' := by
  subst hq
  have h := has_any S hl v w
  rw [hv] at h
  exact h

theorem eqc_q (cs : List Nat) (p : Int) (hp : p = (pk cs : Nat)) (hl : Fits cs) (ao : Option Addr) (c : Nat) (w : World) (hrow : RowAt w ao cs) :
    Calls Yba.prog 12 #[.agg #[.int .u64 p], .slice ao cs.length c] w fun e w' => e = .returned (.bool true) ∧ Below w.heap.size w w' := by
  subst hp; exact eqc_any cs hl ao c w hrow

/-- The row of the codecs kept, as far as it is made. -/
structure Kept (w5 wr : World) (v : Value) (S : List Nat) : Prop where
  low : Below w5.heap.size w5 wr
  own : wr.ownsRow w5.heap.size 68 1 v S.length (u8s S)

theorem Kept.grown {w5 wr w1 w2 : World} {v : Value} {S : List Nat} {g cap c : Nat} {X : Obj} (h : Kept w5 wr v S) (hB : Below wr.heap.size wr w1)
    (hown : w2.ownsRow w5.heap.size 68 1 (.slice (some ⟨g, 0, none⟩) (S.length + 1) cap) (S.length + 1) (u8s S ++ [.int .u8 (c : Int)])) (hgr : (w1.alloc X).grownBy w2 v.ownBlock) :
    Kept w5 w2 (.slice (some ⟨g, 0, none⟩) (S.length + 1) cap) (S ++ [c]) := by
  have hs := h.low.size
  have hs1 := hB.size
  have h1 : Below w5.heap.size w5 w1 := h.low.trans (hB.mono hs)
  refine ⟨(h1.alloc (by omega) X).grown hgr (by simp; omega) (fun k hk => own_block_le h.own k hk), ?_⟩
  rw [u8s_snoc, show (S ++ [c]).length = S.length + 1 from by simp]
  exact hown

/-- What is known behind the ladder's three steps. -/
structure Late (w wx : World) (b4 bc br b6 B g cap : Nat) (p q : Int) (aw : Option Addr) (cs : List Nat) (st : List Value) (b18 b19 : Nat) : Prop where
  post : Post w wx b4 bc br b6 (b6 + 1) B g cap p q aw cs st
  o18 : One wx b18 (.int .u64 q)
  s19 : StepAt wx b19 st

theorem Late.on {w wx wy : World} {b4 bc br b6 B g cap : Nat} {p q : Int} {aw : Option Addr} {cs : List Nat} {st : List Value} {b18 b19 : Nat} (h : Late w wx b4 bc br b6 B g cap p q aw cs st b18 b19) (hB : Below wx.heap.size wx wy) : Late w wy b4 bc br b6 B g cap p q aw cs st b18 b19 :=
  ⟨h.post.on hB, h.o18.on hB, h.s19.on hB⟩

theorem build81 (w : World) : (Instr.build 81 #[]).run Yba.prog w = .ok (.agg noFwd.toArray) w := by kernel_rfl
theorem eq81 (w : World) : (binOp .eql 81 (.agg noFwd.toArray) (.agg noFwd.toArray)).run Yba.prog w = .ok (.bool true) w := by kernel_rfl

/-- What stands of the lists, from interrogateHLR on. -/
structure Given (cs : List Nat) (p q : Int) (st : List Value) : Prop where
  fit : Fits cs
  hp : p = (pk cs : Nat)
  hq : q = (pk (svcsOf cs) : Nat)
  none : (svcsOf cs).length = 0 → st = (sigL 11 1 2).set 8 (.int .u8 57)
  some : 0 < (svcsOf cs).length → st = (sigL 11 2 0).set 4 (.int .u64 p)

theorem Given.len {cs : List Nat} {p q : Int} {st : List Value} (h : Given cs p q st) : st.length = 45 := by
  rcases Nat.eq_zero_or_pos (svcsOf cs).length with h0 | h0
  · rw [h.none h0]; simp [sigL_len]
  · rw [h.some h0]; simp [sigL_len]
theorem Given.one {cs : List Nat} {p q : Int} {st : List Value} (h : Given cs p q st) : ∀ v ∈ st, v.oneCell' = true := by
  rcases Nat.eq_zero_or_pos (svcsOf cs).length with h0 | h0
  · rw [h.none h0]; exact sig_one _ _ _ _ _ rfl
  · rw [h.some h0]; exact sig_one _ _ _ _ _ rfl

/-- The function's statements, one behind the other. -/
def dropC : Nat → Code → Code
  | 0, c => c
  | n + 1, .seq _ b => dropC n b
  | _ + 1, c => c
def headC : Code → Code
  | .seq a _ => a
  | c => c
noncomputable def tailC (n : Nat) : Code := dropC n (Yba.f3.body.getD .skip)
noncomputable def stmtC (n : Nat) : Code := headC (tailC n)

theorem tail_step {Q : Exit → Act → World → Prop} {a : Act} {w : World} (n m : Nat) (hn : tailC n = .seq (stmtC n) (tailC m)) (h : (stmtC n).wp Yba.prog (Exit.then (fun a w => (tailC m).wp Yba.prog Q a w) Q) a w) : (tailC n).wp Yba.prog Q a w := by
  rw [hn]; exact wp_seq h

theorem open9 : tailC 9 = .seq (stmtC 9) (tailC 10) := by kernel_rfl
theorem open10 : tailC 10 = .seq (stmtC 10) (tailC 11) := by kernel_rfl
theorem open11 : tailC 11 = .seq (stmtC 11) (tailC 12) := by kernel_rfl
theorem open12 : tailC 12 = .seq (stmtC 12) (tailC 13) := by kernel_rfl
theorem open13 : tailC 13 = .seq (stmtC 13) (tailC 14) := by kernel_rfl
theorem open14 : tailC 14 = .seq (stmtC 14) (tailC 15) := by kernel_rfl
theorem open15 : tailC 15 = .seq (stmtC 15) (tailC 16) := by kernel_rfl
theorem open16 : tailC 16 = .seq (stmtC 16) (tailC 17) := by kernel_rfl
theorem open17 : tailC 17 = .seq (stmtC 17) (tailC 18) := by kernel_rfl
theorem open18 : tailC 18 = .seq (stmtC 18) (tailC 19) := by kernel_rfl
theorem open19 : tailC 19 = .seq (stmtC 19) (tailC 20) := by kernel_rfl
theorem open20 : tailC 20 = .seq (stmtC 20) (tailC 21) := by kernel_rfl
theorem open21 : tailC 21 = .seq (stmtC 21) (tailC 22) := by kernel_rfl
theorem open22 : tailC 22 = .seq (stmtC 22) (tailC 23) := by kernel_rfl

end Go.Proofs.Ybulkcbu
