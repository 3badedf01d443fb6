/-
  WHAT LawS0150BRoute KNOWS AHEAD OF interrogateHLR AND BEHIND IT, the packed lists behind letters.
-/
import Derived.Test.YbulkcbuHLR
import Derived.Test.YbulkcbuEq
namespace Go.Proofs.Ybulkcbu
open Go.RowKit

/-- The codecs, with the packed list behind a letter. -/
theorem codecs_p (ao : Option Addr) (cap : Nat) (raw : List Nat) (w : World) (hn : raw.length ≤ 1024) (hcame : Bytes w ao raw) :
    Calls Yba.prog 4 #[.slice ao raw.length cap] w fun e w' => ∃ (cs : List Nat) (p : Int) (aw : Option Addr) (cw : Nat), Hid (p = (pk cs : Nat)) ∧ e = .returned (.tuple #[.slice aw cs.length cw, .agg #[.int .u64 p]]) ∧ Fits cs ∧ Hid (RowAt w' aw cs) ∧ Below w.heap.size w w' := by
  refine (codecs_any ao cap raw w hn hcame).mono ?_
  rintro e w' ⟨cs, v, rfl, hf, hown, hB⟩
  obtain ⟨aw, cw, rfl, hrow⟩ := row_form hown
  exact ⟨cs, _, aw, cw, rfl, rfl, hf, hrow, hB⟩

/-- interrogateHLR, with both lists behind letters. -/
structure HOut (w w' : World) (br bsc bc : Nat) (cs : List Nat) (p q : Int) (B g cap : Nat) (st : List Value) : Prop where
  hq : q = (pk (svcsOf cs) : Nat)
  le : w.heap.size ≤ B
  fin : HEnd w w' br bsc bc B g cap q st
  none : (svcsOf cs).length = 0 → st = (sigL 11 1 2).set 8 (.int .u8 57)
  some : 0 < (svcsOf cs).length → st = (sigL 11 2 0).set 4 (.int .u64 p)

theorem hlr_q (br bsc bc : Nat) (cs : List Nat) (p : Int) (hp : p = (pk cs : Nat)) (hl : Fits cs) (w : World) (hn1 : br ≠ bc) (hn2 : bsc ≠ bc) (hEnv : Env w br bsc bc (.slice none 0 0)) :
    Calls Yba.prog 5 #[.pointer (some ⟨br, 0, none⟩), .agg #[.int .u64 p]] w fun e w' => ∃ (q : Int) (B g cap : Nat) (st : List Value), e = .returned (.tuple #[.agg #[.int .u64 q], .agg #[.int .u64 p]]) ∧ HOut w w' br bsc bc cs p q B g cap st := by
  subst hp
  refine (hlr_any br bsc bc cs hl w hn1 hn2 hEnv).mono ?_
  rintro e w' ⟨rfl, B, g, cap, st, h1, h2, h3, h4⟩
  exact ⟨_, B, g, cap, st, rfl, rfl, h1, h2, h3, h4⟩

theorem RowAt.lt {w : World} {ao : Option Addr} {cs : List Nat} (h : RowAt w ao cs) {j : Nat} (hj : j < cs.length) : ∃ g, ao = some ⟨g, 0, none⟩ ∧ g < w.heap.size := by
  obtain ⟨g, e, hc⟩ := h j hj
  exact ⟨g, e, World.block_lt_of_cell? _ _ hc⟩

/-- What is known ahead of interrogateHLR. -/
structure Ready (w w3 : World) (b4 bsc bc br : Nat) (p : Int) (aw : Option Addr) (cs : List Nat) : Prop where
  env : Env w3 br bsc bc (.slice none 0 0)
  fwd : w3.cell? ⟨bc, 4, none⟩ = some (.pointer none)
  o4 : One w3 b4 (.int .u64 p)
  row : RowAt w3 aw cs
  low : Below w.heap.size w w3
  far : ∀ g, aw = some ⟨g, 0, none⟩ → 0 < cs.length → g ≠ bc
  ord : w.heap.size ≤ b4 ∧ b4 < bsc ∧ bsc < bc ∧ bc < br ∧ br < w3.heap.size

theorem ready_mk {w w0 : World} {b4 : Nat} {p : Int} {aw : Option Addr} {cs : List Nat} {zs zc zr : Array Value} (o4 : One w0 b4 (.int .u64 p)) (row : RowAt w0 aw cs) (low : Below w.heap.size w w0) (h4 : w.heap.size ≤ b4)
    (s19 : zs[19]? = some (.slice none 0 0)) (s20 : zs[20]? = some (.slice none 0 0)) (c0 : zc[0]? = some (.slice none 0 0)) (c4 : zc[4]? = some (.pointer none))
    (r0 : zr[0]? = some (.pointer (some ⟨w0.heap.size, 0, none⟩))) (r1 : zr[1]? = some (.pointer (some ⟨w0.heap.size + 1, 0, none⟩))) :
    Ready w (((w0.alloc (.cells zs 49)).alloc (.cells zc 59)).alloc (.cells zr 72)) b4 w0.heap.size (w0.heap.size + 1) (w0.heap.size + 1 + 1) p aw cs := by
  have b1 : Below w0.heap.size w0 (w0.alloc (.cells zs 49)) := (Below.refl _ _).alloc (Nat.le_refl _) _
  have b2 : Below (w0.heap.size + 1) (w0.alloc (.cells zs 49)) (((w0.alloc (.cells zs 49)).alloc (.cells zc 59)).alloc (.cells zr 72)) := ((Below.refl _ _).alloc (by simp) _).alloc (by simp) _
  have b3 : Below (w0.heap.size + 1 + 1) ((w0.alloc (.cells zs 49)).alloc (.cells zc 59)) (((w0.alloc (.cells zs 49)).alloc (.cells zc 59)).alloc (.cells zr 72)) := (Below.refl _ _).alloc (by simp) _
  have hb0 := b1.trans (b2.mono (by omega))
  have hT := heap_alloc_new (w0.alloc (.cells zs 49)) (.cells zc 59)
  have hU := heap_alloc_new ((w0.alloc (.cells zs 49)).alloc (.cells zc 59)) (.cells zr 72)
  simp only [World.size_alloc] at hT hU
  have cS : ∀ o u, zs[o]? = some u → (((w0.alloc (.cells zs 49)).alloc (.cells zc 59)).alloc (.cells zr 72)).cell? ⟨w0.heap.size, o, none⟩ = some u := fun o u h => by
    rw [b2.cell (p := ⟨w0.heap.size, o, none⟩) (show w0.heap.size < w0.heap.size + 1 by omega), cell_of_row _ _ _ _ _ _ (heap_alloc_new w0 (.cells zs 49)), h]
  have cT : ∀ o u, zc[o]? = some u → (((w0.alloc (.cells zs 49)).alloc (.cells zc 59)).alloc (.cells zr 72)).cell? ⟨w0.heap.size + 1, o, none⟩ = some u := fun o u h => by
    rw [b3.cell (p := ⟨w0.heap.size + 1, o, none⟩) (show w0.heap.size + 1 < w0.heap.size + 1 + 1 by omega), cell_of_row _ _ _ _ _ _ hT, h]
  have l4 := o4.lt
  refine ⟨⟨?_, ?_, cT 0 _ c0, ?_, cS 19 _ s19, cS 20 _ s20⟩, cT 4 _ c4, o4.on hb0, row.on hb0, low.trans (hb0.mono low.size), ?_, by simp; omega⟩
  · rw [cell_of_row _ _ _ _ _ _ hU, r0]
  · rw [cell_of_row _ _ _ _ _ _ hU, r1]
  · rw [b3.frozen (p := ⟨w0.heap.size + 1, 0, none⟩) (show w0.heap.size + 1 < w0.heap.size + 1 + 1 by omega)]
    unfold World.frozen?
    dsimp only
    rw [hT]
    rfl
  · intro g e h0
    obtain ⟨g', e', hl⟩ := row.lt h0
    rw [e] at e'
    cases e'
    omega

/-- What is known behind interrogateHLR. -/
structure Post (w w5 : World) (b4 bc br b6 b7 B g cap : Nat) (p q : Int) (aw : Option Addr) (cs : List Nat) (st : List Value) : Prop where
  r1 : w5.cell? ⟨br, 1, none⟩ = some (.pointer (some ⟨bc, 0, none⟩))
  lad : w5.cell? ⟨bc, 0, none⟩ = some (.slice (some ⟨g, 0, none⟩) 3 cap)
  fwd : w5.cell? ⟨bc, 4, none⟩ = some (.pointer none)
  o4 : One w5 b4 (.int .u64 p)
  o6 : One w5 b6 (.int .u64 q)
  o7 : One w5 b7 (.int .u64 p)
  row : RowAt w5 aw cs
  own : w5.ownsRow B 85 45 (.slice (some ⟨g, 0, none⟩) 3 cap) 3 (((sigL 11 12 9).set 5 (.int .u64 q) ++ (sigL 12 11 10).set 5 (.int .u64 q)) ++ st)
  low : Below w.heap.size w w5

theorem Post.on {w w5 w6 : World} {b4 bc br b6 b7 B g cap : Nat} {p q : Int} {aw : Option Addr} {cs : List Nat} {st : List Value} (h : Post w w5 b4 bc br b6 b7 B g cap p q aw cs st) (hB : Below w5.heap.size w5 w6) : Post w w6 b4 bc br b6 b7 B g cap p q aw cs st :=
  ⟨cell_on hB h.r1, cell_on hB h.lad, cell_on hB h.fwd, h.o4.on hB, h.o6.on hB, h.o7.on hB, h.row.on hB, own_on h.own hB, h.low.trans (hB.mono h.low.size)⟩

theorem post_mk {w w3 wH : World} {b4 bsc bc br B g cap : Nat} {p q : Int} {aw : Option Addr} {cs : List Nat} {st : List Value} (hR : Ready w w3 b4 bsc bc br p aw cs) (hO : HOut w3 wH br bsc bc cs p q B g cap st) :
    Post w ((wH.alloc (.cells #[.int .u64 q] 73)).alloc (.cells #[.int .u64 p] 26)) b4 bc br wH.heap.size (wH.heap.size + 1) B g cap p q aw cs st := by
  have hord := hR.ord
  have hF := hO.fin.car.fr
  have hB1 : Below wH.heap.size wH (wH.alloc (.cells #[.int .u64 q] 73)) := (Below.refl _ _).alloc (Nat.le_refl _) _
  have hB2 : Below wH.heap.size wH ((wH.alloc (.cells #[.int .u64 q] 73)).alloc (.cells #[.int .u64 p] 26)) := hB1.alloc (by simp) _
  have e := hO.fin.env.on hB2
  have lbc := World.block_lt_of_cell? _ _ hO.fin.env.lad
  refine ⟨e.r1, e.lad, ?_, (hR.o4.fr hF (by omega) (by simp)).on hB2, ⟨by go_simp, by go_simp⟩, ⟨by go_simp, by go_simp⟩, ?_, own_on hO.fin.own hB2, ?_⟩
  · exact cell_on hB2 ((hO.fin.car.rest 4 (by decide)).trans hR.fwd)
  · intro j hj
    obtain ⟨g', e', hc⟩ := hR.row j hj
    exact ⟨g', e', cell_on hB2 (cell_fr hF hc (hR.far g' e' (by omega)) (by simp))⟩
  · have h1 : Below w.heap.size w wH := ⟨hF.os.trans hR.low.os, hF.tape.trans hR.low.tape, hF.output.trans hR.low.output, Nat.le_trans hR.low.size hF.size, fun k hk => (hF.block k (by have := hR.low.size; omega) (by omega) (by simp)).trans (hR.low.block k hk)⟩
    exact h1.trans (hB2.mono h1.size)

end Go.Proofs.Ybulkcbu
