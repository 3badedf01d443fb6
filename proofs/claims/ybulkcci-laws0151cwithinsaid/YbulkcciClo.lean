/-
  The function literal of 'LawS0151CWithin' BY ITS CONTRACT.
-/
import Derived.Test.YbulkcciEq
import Derived.Deep.AppendLies
import Derived.Deep.RegionLaw
import Derived.Deep.DeepCutAuto
namespace Go.Proofs.Ybulkcci
open Go.RowKit

/-- w' is w but for the blocks of which S holds, and for new ones. -/
structure But (w w' : World) (S : Nat → Prop) : Prop where
  os : w'.os = w.os
  tape : w'.tape = w.tape
  output : w'.output = w.output
  size : w.heap.size ≤ w'.heap.size
  block : ∀ k, k < w.heap.size → ¬ S k → w'.heap[k]? = w.heap[k]?

theorem But.cell {w w' : World} {S : Nat → Prop} (h : But w w' S) {k : Nat} (o : Nat) (hk : k < w.heap.size) (hS : ¬ S k) : w'.cell? ⟨k, o, none⟩ = w.cell? ⟨k, o, none⟩ ∧ w'.frozen? ⟨k, o, none⟩ = w.frozen? ⟨k, o, none⟩ :=
  ⟨World.cell?_of_block (a := ⟨k, o, none⟩) (h.block k hk hS), World.frozen?_of_block (a := ⟨k, o, none⟩) (h.block k hk hS)⟩
theorem But.trans {a b c : World} {S T : Nat → Prop} (h : But a b S) (k : But b c T) : But a c (fun x => S x ∨ T x) :=
  ⟨k.os.trans h.os, k.tape.trans h.tape, k.output.trans h.output, Nat.le_trans h.size k.size, fun i hi hn => (k.block i (Nat.lt_of_lt_of_le hi h.size) (fun hT => hn (Or.inr hT))).trans (h.block i hi (fun hS => hn (Or.inl hS)))⟩
theorem But.mono {w w' : World} {S T : Nat → Prop} (h : But w w' S) (hST : ∀ k, S k → T k) : But w w' T := ⟨h.os, h.tape, h.output, h.size, fun k hk hT => h.block k hk (fun hS => hT (hST k hS))⟩
theorem But.set (w : World) (b o : Nat) (u : Value) : But w (w.setCell ⟨b, o, none⟩ u) (fun k => k = b) :=
  ⟨rfl, rfl, rfl, by simp [World.setCell], fun k _ hk => Below.heap_setCell _ _ _ _ hk⟩
theorem But.grown {w w' : World} {row : Option Nat} (h : w.grownBy w' row) : But w w' (fun k => some k = row) := ⟨h.os, h.tape, h.output, h.size, fun k hk hn => h.block k hk hn⟩
theorem But.below {w w' : World} (h : Below w.heap.size w w') : But w w' (fun _ => False) := ⟨h.os, h.tape, h.output, h.size, fun k hk _ => h.block k hk⟩
theorem Holds3.kept {w w' : World} {g : Nat} {l : List Stp} (h : Holds3 w g l) (e : w'.heap[g]? = w.heap[g]?) : Holds3 w' g l := fun j hj =>
  ⟨(World.cell?_of_block (a := ⟨g, j * 3, none⟩) e).trans (h j hj).1, (World.cell?_of_block (a := ⟨g, j * 3 + 1, none⟩) e).trans (h j hj).2.1, (World.cell?_of_block (a := ⟨g, j * 3 + 2, none⟩) e).trans (h j hj).2.2⟩

theorem flat_mem_one (l : List Stp) : ∀ u ∈ flat l, u.oneCell' = true := by
  intro u hu
  simp only [flat, List.mem_flatMap] at hu
  obtain ⟨p, _, hp⟩ := hu
  exact cells_one p u hp

theorem flat_cells {w : World} {g : Nat} {l : List Stp} (h : Holds3 w g l) : ∀ j u, (flat l)[j]? = some u → w.cell? ((⟨g, 0, none⟩ : Addr).add j) = some u := by
  intro j u hj
  have hlt : j < l.length * 3 := by rw [← flat_length]; exact (List.getElem?_eq_some_iff.1 hj).1
  have hplain : (⟨g, 0, none⟩ : Addr).add j = ⟨g, j, none⟩ := by unfold Addr.add; split <;> simp_all
  rw [hplain]
  have hq : j / 3 < l.length := by omega
  have hr : j % 3 < 3 := by omega
  have e : j = (j / 3) * 3 + j % 3 := by omega
  have hf := flat_at l (j / 3) (j % 3) hq hr
  rw [← e, hj] at hf
  obtain ⟨h0, h1, h2⟩ := h (j / 3) hq
  have h3 : j % 3 = 0 ∨ j % 3 = 1 ∨ j % 3 = 2 := by omega
  rcases h3 with h3 | h3 | h3
  · rw [h3] at hf e
    have hu : u = .int .i64 l[j / 3].k := by simpa [Stp.cells] using hf
    rw [hu, congrArg (fun x => (⟨g, x, none⟩ : Addr)) (show j = j / 3 * 3 from by omega)]; exact h0
  · rw [h3] at hf e
    have hu : u = .string l[j / 3].s := by simpa [Stp.cells] using hf
    rw [hu, congrArg (fun x => (⟨g, x, none⟩ : Addr)) (show j = j / 3 * 3 + 1 from by omega)]; exact h1
  · rw [h3] at hf e
    have hu : u = .int .i64 l[j / 3].i := by simpa [Stp.cells] using hf
    rw [hu, congrArg (fun x => (⟨g, x, none⟩ : Addr)) (show j = j / 3 * 3 + 2 from by omega)]; exact h2

/-- What the literal leaves: one call counted, the path seen. -/
structure CloEnd (w w' : World) (b14 b15 gs caps : Nat) (l : List Stp) : Prop where
  le : w.heap.size ≤ gs
  calls : w'.cell? ⟨b14, 0, none⟩ = some (.int .i64 1)
  seen : w'.cell? ⟨b15, 0, none⟩ = some (.slice (some ⟨gs, 0, none⟩) l.length caps)
  holds : Holds3 w' gs l
  but : But w w' (fun k => k = b14 ∨ k = b15)

set_option maxHeartbeats 1000000 in
theorem clo_any (b14 b12 b15 b6 b13 bw gp capp : Nat) (l : List Stp) (fail : Bool) (sent : Value) (w : World) (hn : l.length ≤ 1025) (hpos : 0 < l.length)
    (c14 : w.cell? ⟨b14, 0, none⟩ = some (.int .i64 0)) (f14 : w.frozen? ⟨b14, 0, none⟩ = false) (c12 : w.cell? ⟨b12, 0, none⟩ = some (.pointer (some ⟨bw, 0, none⟩)))
    (cp : w.cell? ⟨bw, 2, none⟩ = some (.slice (some ⟨gp, 0, none⟩) l.length capp)) (hp : Holds3 w gp l)
    (c15 : w.cell? ⟨b15, 0, none⟩ = some (.slice none 0 0)) (f15 : w.frozen? ⟨b15, 0, none⟩ = false) (c6 : w.cell? ⟨b6, 0, none⟩ = some (.bool fail)) (c13 : w.cell? ⟨b13, 0, none⟩ = some sent)
    (n1 : b14 ≠ b12) (n2 : b14 ≠ bw) (n3 : b14 ≠ b15) (n4 : b14 ≠ b6) (n5 : b14 ≠ b13) (n6 : b15 ≠ b6) (n7 : b15 ≠ b13) (n8 : b14 ≠ gp) :
    Calls Yba.prog 7 #[.pointer (some ⟨b14, 0, none⟩), .pointer (some ⟨b12, 0, none⟩), .pointer (some ⟨b15, 0, none⟩), .pointer (some ⟨b6, 0, none⟩), .pointer (some ⟨b13, 0, none⟩)] w
      fun e w' => e = .returned (if fail then sent else .nilIface) ∧ ∃ gs caps, CloEnd w w' b14 b15 gs caps l := by
  obtain ⟨i0, hi, hz0, hz1, hz2⟩ := info_parts info29
  have l14 : b14 < w.heap.size := World.block_lt_of_cell? _ _ c14
  have l15 : b15 < w.heap.size := World.block_lt_of_cell? _ _ c15
  have hset := But.set w b14 0 (.int .i64 1)
  have hp1 : Holds3 (w.setCell ⟨b14, 0, none⟩ (.int .i64 1)) gp l := hp.kept (Below.heap_setCell _ _ _ _ (fun e => n8 e.symm))
  have s14 : (w.setCell ⟨b14, 0, none⟩ (.int .i64 1)).cell? ⟨b14, 0, none⟩ = some (.int .i64 1) := World.cell?_setCell_same _ _ _ c14
  have l6 : b6 < w.heap.size := World.block_lt_of_cell? _ _ c6
  have l13 : b13 < w.heap.size := World.block_lt_of_cell? _ _ c13
  have hcells := flat_cells hp1
  have hfl := flat_length l
  have hfo := flat_mem_one l
  obtain ⟨n, hn'⟩ : ∃ n, n = l.length := ⟨_, rfl⟩
  have HN : Hid (n = l.length) := hn'
  rw [← hn'] at hn hpos cp hfl
  clear hn' hp hp1
  cases fail
  all_goals
    go_enter Yba.func7, Yba.ntmps7
    go_wp2_with (at_builtin; refine wpList_append_lies _ rfl (.const (.slice none 0 0)) (.tmp 11) 25 rfl w.heap.size 29 i0 _ 3 32 Yba.underlying25 hi hz0 hz1 hz2 rfl (by decide) (.slice none 0 0) 0 [] rfl (World.ownsRow_nil _ _ _ _) ⟨gp, 0, none⟩ n capp (flat l) rfl hfl hcells hfo hpos (by unfold maxLen; omega) (by omega) (by simp) _ rfl ?_; intro g cap w2 hown2 hgrow2 hat2 hlt2; rw [Nat.zero_add] at hown2 ⊢; rw [List.nil_append] at hown2; have hbut := (hset.trans (But.grown hgrow2)).mono (T := fun k => k = b14) (fun k hk => hk.elim id (fun h => by cases h)); have e14 := (hgrow2.cell_far ⟨b14, 0, none⟩ (by simp; omega) (by simp [Value.ownBlock])).trans s14; have e15 := (hbut.cell 0 l15 (fun h => n3 h.symm)).1.trans c15; have g15 := (hbut.cell 0 l15 (fun h => n3 h.symm)).2.trans f15; have e6 := (hbut.cell 0 l6 (fun h => n4 h.symm)).1.trans c6; have e13 := (hbut.cell 0 l13 (fun h => n5 h.symm)).1.trans c13)
    go_ret
    have hg : w.heap.size ≤ g := (hown2.lt g rfl).1
    refine ⟨rfl, g, cap, ⟨hg, ?_, ?_, ?_, ?_⟩⟩
    · rw [World.cell?_setCell_other _ _ _ _ (by simp)]; exact e14
    · rw [← HN.out]; exact World.cell?_setCell_same _ _ _ e15
    · exact (holds_own hown2 HN.out).kept (Below.heap_setCell _ _ _ _ (show g ≠ b15 by omega))
    · exact (hbut.trans (But.set _ _ _ _)).mono (fun k hk => hk)

end Go.Proofs.Ybulkcci
