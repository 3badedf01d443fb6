/-
  (*callRun).step and (*callRun).signal BY THEIR CONTRACTS: the ladder, a row of the call's own, grows by a step.
-/
import Derived.Test.YbulkcbuWide
import Derived.Deep.AppendLies
import Derived.Deep.RegionLaw
import Derived.Deep.DeepCutAuto
namespace Go.Proofs.Ybulkcbu
open Go.RowKit

theorem info85 : (Yba.prog.info? 85).map (fun i => (i.zero, i.size, i.bytes)) = some (some (.agg zstep.toArray), 45, 96) := by kernel_rfl
theorem build85 (w : World) : (Instr.build 85 #[]).run Yba.prog w = .ok (.agg zstep.toArray) w := by kernel_rfl
theorem buildS85 (w : World) : (Instr.buildSlice 51 1 #[(0, .agg zstep.toArray)]).run Yba.prog w = .ok (.slice (some ⟨w.heap.size, 0, none⟩) 1 1) (w.alloc (.cells zstep.toArray 85)) := by kernel_rfl

/-- w' is w but for block 'bc', the row 'row' and new blocks. -/
structure Fr (w w' : World) (bc : Nat) (row : Option Nat) : Prop where
  os : w'.os = w.os
  tape : w'.tape = w.tape
  output : w'.output = w.output
  size : w.heap.size ≤ w'.heap.size
  block : ∀ k, k < w.heap.size → k ≠ bc → some k ≠ row → w'.heap[k]? = w.heap[k]?

/-- What 'r.call.Ladder = append(r.call.Ladder, Step{})' leaves. -/
structure Grew (w wx : World) (br bc B n g cap : Nat) (v : Value) (xs : List Value) : Prop where
  r : wx.cell? ⟨br, 1, none⟩ = some (.pointer (some ⟨bc, 0, none⟩))
  c : wx.cell? ⟨bc, 0, none⟩ = some (.slice (some ⟨g, 0, none⟩) (n + 1) cap)
  f : wx.frozen? ⟨bc, 0, none⟩ = false
  own : wx.ownsRow B 85 45 (.slice (some ⟨g, 0, none⟩) (n + 1) cap) (n + 1) xs
  fr : Fr w wx bc v.ownBlock
  at_ : v.ownBlock = some g ∨ w.heap.size ≤ g
  rest : ∀ o, o ≠ 0 → wx.cell? ⟨bc, o, none⟩ = w.cell? ⟨bc, o, none⟩

theorem keep_cell {w w0 w1 : World} {B k : Nat} {row : Option Nat} (h0 : Below w.heap.size w w0) (hg : w0.grownBy w1 row) (hv : ∀ j, row = some j → B ≤ j) (hk : k < B) (hB : B ≤ w.heap.size) (o : Nat) :
    w1.cell? ⟨k, o, none⟩ = w.cell? ⟨k, o, none⟩ ∧ w1.frozen? ⟨k, o, none⟩ = w.frozen? ⟨k, o, none⟩ := by
  have hs0 := h0.size
  have far : some k ≠ row := fun e => by have := hv k e.symm; omega
  have l0 : k < w0.heap.size := by omega
  have l1 : k < w.heap.size := by omega
  exact ⟨(hg.cell_far ⟨k, o, none⟩ l0 far).trans (h0.cell (p := ⟨k, o, none⟩) l1), (hg.frozen_far ⟨k, o, none⟩ l0 far).trans (h0.frozen (p := ⟨k, o, none⟩) l1)⟩

theorem grew_mk {w w0 w1 : World} {br bc B n g cap H : Nat} {v : Value} {xs : List Value} (h0 : Below w.heap.size w w0)
    (hr : w.cell? ⟨br, 1, none⟩ = some (.pointer (some ⟨bc, 0, none⟩))) {y : Value} (hc : w.cell? ⟨bc, 0, none⟩ = some y) (hf : w.frozen? ⟨bc, 0, none⟩ = false)
    (hv : ∀ k, v.ownBlock = some k → B ≤ k) (hbr : br < B) (hbc : bc < B) (hB : B ≤ w.heap.size)
    (hown1 : w1.ownsRow B 85 45 (.slice (some ⟨g, 0, none⟩) (n + 1) cap) (n + 1) xs) (hgrow1 : w0.grownBy w1 v.ownBlock) (hat : v.ownBlock = some g ∨ g = H) (hH : w.heap.size ≤ H) :
    Grew w (w1.setCell ⟨bc, 0, none⟩ (.slice (some ⟨g, 0, none⟩) (n + 1) cap)) br bc B n g cap v xs := by
  have hs0 := h0.size
  have far : ∀ k, k < B → some k ≠ v.ownBlock := fun k hk e => by have := hv k e.symm; omega
  have cell1 : ∀ k o, k < B → w1.cell? ⟨k, o, none⟩ = w.cell? ⟨k, o, none⟩ := fun k o hk =>
    (hgrow1.cell_far ⟨k, o, none⟩ (show k < w0.heap.size by omega) (far k hk)).trans (h0.cell (p := ⟨k, o, none⟩) (show k < w.heap.size by omega))
  have froz1 : ∀ k o, k < B → w1.frozen? ⟨k, o, none⟩ = w.frozen? ⟨k, o, none⟩ := fun k o hk =>
    (hgrow1.frozen_far ⟨k, o, none⟩ (show k < w0.heap.size by omega) (far k hk)).trans (h0.frozen (p := ⟨k, o, none⟩) (show k < w.heap.size by omega))
  refine ⟨?_, ?_, ?_, ?_, ⟨?_, ?_, ?_, ?_, ?_⟩, ?_, ?_⟩
  · rw [World.cell?_setCell_other _ _ _ _ (by simp), cell1 br 1 hbr]; exact hr
  · exact World.cell?_setCell_same _ _ _ ((cell1 bc 0 hbc).trans hc)
  · rw [World.frozen?_setCell, froz1 bc 0 hbc]; exact hf
  · exact ownsRow_setCell_below hown1 hbc _
  · exact hgrow1.os.trans h0.os
  · exact hgrow1.tape.trans h0.tape
  · exact hgrow1.output.trans h0.output
  · have := hgrow1.size; simp [World.setCell]; omega
  · intro k hk h1 h2
    rw [Below.heap_setCell _ _ _ _ h1, hgrow1.block k (by omega) h2, h0.block k hk]
  · rcases hat with h | h
    · exact Or.inl h
    · exact Or.inr (by omega)
  · intro o ho
    rw [World.cell?_setCell_other _ _ _ _ (by simp), cell1 bc o hbc]

/-- A cell of the newest step. -/
theorem Grew.step {w wx : World} {br bc B n g cap : Nat} {v : Value} {xs st : List Value} (h : Grew w wx br bc B n g cap v (xs ++ st)) (hx : xs.length = n * 45) (hst : st.length = 45) {j : Nat} {u : Value} (hj : st[j]? = some u) :
    wx.cell? ⟨g, n * 45 + j, none⟩ = some u ∧ wx.frozen? ⟨g, n * 45 + j, none⟩ = false := by
  have hlt : j < st.length := (List.getElem?_eq_some_iff.1 hj).1
  refine ⟨?_, h.own.frozenAt _⟩
  rw [h.own.cellAt (n * 45 + j) (by omega), List.getElem?_append_right (by omega), hx, Nat.add_sub_cancel_left, hj]

/-- A store into the newest step. -/
theorem Grew.store {w wx : World} {br bc B n g cap : Nat} {v : Value} {xs st : List Value} (h : Grew w wx br bc B n g cap v (xs ++ st)) (hx : xs.length = n * 45) (hbr : br < B) (hbc : bc < B) (j : Nat) (u : Value) :
    Grew w (wx.setCell ⟨g, n * 45 + j, none⟩ u) br bc B n g cap v (xs ++ st.set j u) := by
  obtain ⟨hs, hg⟩ := h.own.stored (n * 45 + j) u
  have hBg : B ≤ g := (h.own.lt g rfl).1
  rw [List.set_append_right _ _ (by omega), hx, Nat.add_sub_cancel_left] at hs
  refine ⟨?_, ?_, ?_, hs, ⟨hg.os.trans h.fr.os, hg.tape.trans h.fr.tape, hg.output.trans h.fr.output, Nat.le_trans h.fr.size hg.size, fun k hk h1 h2 => ?_⟩, h.at_, fun o ho => ?_⟩
  · rw [World.cell?_setCell_other _ _ _ _ (by simp)]; exact h.r
  · rw [World.cell?_setCell_other _ _ _ _ (by simp)]; exact h.c
  · rw [World.frozen?_setCell]; exact h.f
  · have hkg : k ≠ g := by
      rcases h.at_ with e | e
      · intro e2; exact h2 (by rw [e2, e])
      · omega
    rw [Below.heap_setCell _ _ _ _ hkg, h.fr.block k hk h1 h2]
  · rw [World.cell?_setCell_other _ _ _ _ (by simp)]; exact h.rest o ho

theorem Grew.drewN {w wx : World} {br bc B n g cap : Nat} {v : Value} {xs : List Value} (h : Grew w wx br bc B n g cap v xs) (m : Nat) : Grew w (wx.drewN m) br bc B n g cap v xs := by
  have hb := below_drewN (Below.refl wx.heap.size wx) m
  have e : (wx.drewN m).heap = wx.heap := by simp
  refine ⟨by simpa using h.r, by simpa using h.c, by simpa using h.f, by simpa [World.ownsRow] using h.own, ⟨hb.os.trans h.fr.os, hb.tape.trans h.fr.tape, hb.output.trans h.fr.output, by rw [e]; exact h.fr.size, fun k hk h1 h2 => by rw [e]; exact h.fr.block k hk h1 h2⟩, h.at_, fun o ho => by simpa using h.rest o ho⟩

/-- A step from one node to another; a signal of kind k in it. -/
def stepFT (f t : Int) : List Value := (zstep.set 0 (.int .u8 f)).set 1 (.int .u8 t)
def sigL (f t k : Int) : List Value := (stepFT f t).set 6 (.int .u8 k)
theorem stepFT_len (f t : Int) : (stepFT f t).length = 45 := by simp [stepFT, zstep, noFwd]
theorem sigL_len (f t k : Int) : (sigL f t k).length = 45 := by simp [sigL, stepFT_len]

set_option maxRecDepth 100000 in
set_option maxHeartbeats 4000000 in
theorem step_any (br bc B n : Nat) (v : Value) (xs : List Value) (f0 t0 : Int) (w : World) (hn : n ≤ 10)
    (hr : w.cell? ⟨br, 1, none⟩ = some (.pointer (some ⟨bc, 0, none⟩))) (hc : w.cell? ⟨bc, 0, none⟩ = some v) (hf : w.frozen? ⟨bc, 0, none⟩ = false)
    (hown : w.ownsRow B 85 45 v n xs) (hbr : br < B) (hbc : bc < B) (hB : B ≤ w.heap.size) :
    Calls Yba.prog 26 #[.pointer (some ⟨br, 0, none⟩), .int .u8 f0, .int .u8 t0] w fun e w' => ∃ g cap, e = .returned (.pointer (some ⟨g, n * 45, none⟩)) ∧ Grew w w' br bc B n g cap v (xs ++ stepFT f0 t0) := by
  obtain ⟨i0, hi, hz0, hz1, hz2⟩ := info_parts info85
  have hb85 := build85
  have hbs85 := buildS85
  have l1 : br < w.heap.size := by omega
  have l2 : bc < w.heap.size := by omega
  have hvb : ∀ j, v.ownBlock = some j → B ≤ j := fun j hj => (hown.lt j hj).1
  go_enter Yba.func26, Yba.ntmps26
  go_upto_region 1 with fail
  go_cut [] (fun wx => ∃ g cap, Grew w wx br bc B n g cap v (xs ++ zstep))
  case first =>
    go_region_law (first | (refine step_append_lies _ rfl (.tmp 18) (.tmp 20) 51 rfl B 85 i0 (.agg zstep.toArray) 45 96 Yba.underlying51 hi hz0 hz1 hz2 rfl (by decide) v n xs rfl (by exact hown.alloc _) ⟨w.heap.size, 0, none⟩ 1 1 zstep rfl rfl (by exact World.news_of_block (heap_alloc_new w _)) zstep_one (by decide) (by unfold maxLen; omega) (by omega) (by simp; omega) _ rfl ?_; intro g cap w1 hown1 hgrow1 hat1 hlt1; have hcl := (keep_cell (w := w) (by exact ((Below.refl _ _).alloc (Nat.le_refl _) _).drew) hgrow1 hvb hbc hB 0).1.trans hc; have hfl := (keep_cell (w := w) (by exact ((Below.refl _ _).alloc (Nat.le_refl _) _).drew) hgrow1 hvb hbc hB 0).2.trans hf; have hrl := (keep_cell (w := w) (by exact ((Below.refl _ _).alloc (Nat.le_refl _) _).drew) hgrow1 hvb hbr hB 1).1.trans hr))
    all_goals (go_wp2_with fail; go_meet; exact ⟨g, cap, grew_mk (by exact ((Below.refl _ _).alloc (Nat.le_refl _) _).drew) hr hc hf hvb hbr hbc hB hown1 hgrow1 hat1 (by simp)⟩)
  case rest =>
    obtain ⟨g, cap, hG⟩ := hcut
    have r1 := hG.r
    have c1 := hG.c
    have hx : xs.length = n * 45 := hown.1
    have q0 : wc.cell? ⟨g, n * 45, none⟩ = some (.int .u8 0) := (hG.step hx rfl (j := 0) rfl).1
    have z0 : wc.frozen? ⟨g, n * 45, none⟩ = false := (hG.step hx rfl (j := 0) rfl).2
    have q1 : wc.cell? ⟨g, n * 45 + 1, none⟩ = some (.int .u8 0) := (hG.step hx rfl (j := 1) rfl).1
    have z1 : wc.frozen? ⟨g, n * 45 + 1, none⟩ = false := (hG.step hx rfl (j := 1) rfl).2
    go_wp2_with fail
    go_quiet (fail)
    go_wp2_with fail
    go_ret
    exact ⟨g, cap, rfl, ((hG.drewN nq).store hx hbr hbc 0 (.int .u8 f0)).store hx hbr hbc 1 (.int .u8 t0)⟩

set_option maxRecDepth 100000 in
set_option maxHeartbeats 1000000 in
theorem signal_any (br bc B n : Nat) (v : Value) (xs : List Value) (f0 t0 k0 : Int) (w : World) (hn : n ≤ 10)
    (hr : w.cell? ⟨br, 1, none⟩ = some (.pointer (some ⟨bc, 0, none⟩))) (hc : w.cell? ⟨bc, 0, none⟩ = some v) (hf : w.frozen? ⟨bc, 0, none⟩ = false)
    (hown : w.ownsRow B 85 45 v n xs) (hbr : br < B) (hbc : bc < B) (hB : B ≤ w.heap.size) :
    Calls Yba.prog 15 #[.pointer (some ⟨br, 0, none⟩), .int .u8 f0, .int .u8 t0, .int .u8 k0] w fun e w' => ∃ g cap, e = .returned (.pointer (some ⟨g, n * 45 + 4, none⟩)) ∧ Grew w w' br bc B n g cap v (xs ++ sigL f0 t0 k0) := by
  have hx : xs.length = n * 45 := hown.1
  go_enter Yba.func15, Yba.ntmps15
  go_wp2_with fail
  refine (step_any br bc B n v xs f0 t0 w hn hr hc hf hown hbr hbc hB).mono ?_
  rintro e w1 ⟨g, cap, rfl, hG⟩
  have q6 : w1.cell? ⟨g, n * 45 + 4 + 2, none⟩ = some (.int .u8 0) := (hG.step hx (stepFT_len _ _) (j := 6) rfl).1
  have z6 : w1.frozen? ⟨g, n * 45 + 4 + 2, none⟩ = false := (hG.step hx (stepFT_len _ _) (j := 6) rfl).2
  go_wp2_with fail
  go_ret
  exact ⟨g, cap, rfl, hG.store hx hbr hbc 6 (.int .u8 k0)⟩

end Go.Proofs.Ybulkcbu
