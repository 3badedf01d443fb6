/-
  WHAT interrogateHLR KNOWS OF THE WORLD: the call's run, its variables; how a step of the ladder carries it on.
-/
import Derived.Test.YbulkcbuSteps
namespace Go.Proofs.Ybulkcbu
open Go.RowKit

/-- The run: its scenario (nothing denied, nothing forwarded), its call, the ladder's value. -/
structure Env (w : World) (br bsc bc : Nat) (v : Value) : Prop where
  r0 : w.cell? ⟨br, 0, none⟩ = some (.pointer (some ⟨bsc, 0, none⟩))
  r1 : w.cell? ⟨br, 1, none⟩ = some (.pointer (some ⟨bc, 0, none⟩))
  lad : w.cell? ⟨bc, 0, none⟩ = some v
  ladF : w.frozen? ⟨bc, 0, none⟩ = false
  den : w.cell? ⟨bsc, 19, none⟩ = some (.slice none 0 0)
  fwd : w.cell? ⟨bsc, 20, none⟩ = some (.slice none 0 0)

/-- A variable of one cell. -/
def One (w : World) (b : Nat) (u : Value) : Prop := w.cell? ⟨b, 0, none⟩ = some u ∧ w.frozen? ⟨b, 0, none⟩ = false

theorem cell_on {w w' : World} (hB : Below w.heap.size w w') {b o : Nat} {u : Value} (h : w.cell? ⟨b, o, none⟩ = some u) : w'.cell? ⟨b, o, none⟩ = some u :=
  (hB.cell (p := ⟨b, o, none⟩) (World.block_lt_of_cell? _ _ h)).trans h
theorem cell_fr {w w' : World} {bc : Nat} {row : Option Nat} (hF : Fr w w' bc row) {b o : Nat} {u : Value} (h : w.cell? ⟨b, o, none⟩ = some u) (h1 : b ≠ bc) (h2 : some b ≠ row) : w'.cell? ⟨b, o, none⟩ = some u :=
  (World.cell?_of_block (a := ⟨b, o, none⟩) (hF.block b (World.block_lt_of_cell? _ _ h) h1 h2)).trans h

theorem One.on {w w' : World} {b : Nat} {u : Value} (h : One w b u) (hB : Below w.heap.size w w') : One w' b u :=
  ⟨cell_on hB h.1, (hB.frozen (p := ⟨b, 0, none⟩) (World.block_lt_of_cell? _ _ h.1)).trans h.2⟩
theorem One.fr {w w' : World} {b bc : Nat} {row : Option Nat} {u : Value} (h : One w b u) (hF : Fr w w' bc row) (h1 : b ≠ bc) (h2 : some b ≠ row) : One w' b u :=
  ⟨cell_fr hF h.1 h1 h2, (World.frozen?_of_block (a := ⟨b, 0, none⟩) (hF.block b (World.block_lt_of_cell? _ _ h.1) h1 h2)).trans h.2⟩
theorem One.lt {w : World} {b : Nat} {u : Value} (h : One w b u) : b < w.heap.size := World.block_lt_of_cell? _ _ h.1
theorem One.set {w : World} {b b' : Nat} {u x : Value} (h : One w b u) (hne : b ≠ b') : One (w.setCell ⟨b', 0, none⟩ x) b u :=
  ⟨by rw [World.cell?_setCell_other _ _ _ _ (by simp)]; exact h.1, by rw [World.frozen?_setCell]; exact h.2⟩

theorem Env.on {w w' : World} {br bsc bc : Nat} {v : Value} (h : Env w br bsc bc v) (hB : Below w.heap.size w w') : Env w' br bsc bc v :=
  ⟨cell_on hB h.r0, cell_on hB h.r1, cell_on hB h.lad, (hB.frozen (p := ⟨bc, 0, none⟩) (World.block_lt_of_cell? _ _ h.lad)).trans h.ladF, cell_on hB h.den, cell_on hB h.fwd⟩

theorem Env.grew {w w' : World} {br bsc bc B n g cap : Nat} {v : Value} {xs : List Value} (h : Env w br bsc bc v) (hG : Grew w w' br bc B n g cap v xs) (n1 : br ≠ bc) (n2 : bsc ≠ bc) (r1 : some br ≠ v.ownBlock) (r2 : some bsc ≠ v.ownBlock) :
    Env w' br bsc bc (.slice (some ⟨g, 0, none⟩) (n + 1) cap) :=
  ⟨cell_fr hG.fr h.r0 n1 r1, hG.r, hG.c, hG.f, cell_fr hG.fr h.den n2 r2, cell_fr hG.fr h.fwd n2 r2⟩

theorem Fr.ofBelow {w w' : World} {bc : Nat} (h : Below w.heap.size w w') : Fr w w' bc none := ⟨h.os, h.tape, h.output, h.size, fun k hk _ _ => h.block k hk⟩
theorem Fr.then {a b c : World} {bc : Nat} {row : Option Nat} (h : Fr a b bc none) (k : Fr b c bc row) (hr : ∀ j, row = some j → a.heap.size ≤ j) : Fr a c bc none :=
  ⟨k.os.trans h.os, k.tape.trans h.tape, k.output.trans h.output, Nat.le_trans h.size k.size, fun i hi h1 h2 =>
    (k.block i (Nat.lt_of_lt_of_le hi h.size) h1 (fun e => by have := hr i e.symm; omega)).trans (h.block i hi h1 h2)⟩

/-- What interrogateHLR carries from w on: the call's block changed in its ladder alone. -/
structure Car (w w' : World) (bc : Nat) : Prop where
  fr : Fr w w' bc none
  rest : ∀ o, o ≠ 0 → w'.cell? ⟨bc, o, none⟩ = w.cell? ⟨bc, o, none⟩

theorem Car.refl (w : World) (bc : Nat) : Car w w bc := ⟨⟨rfl, rfl, rfl, Nat.le_refl _, fun _ _ _ _ => rfl⟩, fun _ _ => rfl⟩
theorem Car.on {w a b : World} {bc : Nat} (h : Car w a bc) (hB : Below a.heap.size a b) (hbc : bc < a.heap.size) : Car w b bc :=
  ⟨h.fr.then (Fr.ofBelow hB) (fun j hj => by cases hj), fun o ho => (hB.cell (p := ⟨bc, o, none⟩) hbc).trans (h.rest o ho)⟩
theorem Car.grew {w a b : World} {br bc B n g cap : Nat} {v : Value} {xs : List Value} (h : Car w a bc) (hG : Grew a b br bc B n g cap v xs) (hv : ∀ j, v.ownBlock = some j → w.heap.size ≤ j) : Car w b bc :=
  ⟨h.fr.then hG.fr hv, fun o ho => (hG.rest o ho).trans (h.rest o ho)⟩
theorem Car.set {w a : World} {bc b : Nat} (h : Car w a bc) (hb : w.heap.size ≤ b) (u : Value) : Car w (a.setCell ⟨b, 0, none⟩ u) bc :=
  ⟨⟨h.fr.os, h.fr.tape, h.fr.output, by have := h.fr.size; simp [World.setCell]; omega, fun k hk h1 h2 => (Below.heap_setCell _ _ _ _ (show k ≠ b by omega)).trans (h.fr.block k hk h1 h2)⟩,
    fun o ho => by rw [World.cell?_setCell_other _ _ _ _ (by simp)]; exact h.rest o ho⟩

end Go.Proofs.Ybulkcbu
