/-
  (*walk).within BY ITS CONTRACT.
-/
import Derived.Test.YbulkcciClo
namespace Go.Proofs.Ybulkcci
open Go.RowKit

theorem buildS29 (w : World) (a b c : Value) : (Instr.buildSlice 25 1 #[(0, .agg #[a, b, c])]).run Yba.prog w = .ok (.slice (some ⟨w.heap.size, 0, none⟩) 1 1) (w.alloc (.cells #[a, b, c] 29)) := by kernel_rfl

/-- What 'w.path = append(w.path, s)' leaves. -/
structure Mid (w wx : World) (bw g2 g cap : Nat) (l : List Stp) (s : Stp) : Prop where
  path : wx.cell? ⟨bw, 2, none⟩ = some (.slice (some ⟨g, 0, none⟩) (l.length + 1) cap)
  pathF : wx.frozen? ⟨bw, 2, none⟩ = false
  pos : wx.cell? ⟨bw, 1, none⟩ = w.cell? ⟨bw, 1, none⟩
  holds : Holds3 wx g (l ++ [s])
  but : But w wx (fun k => k = bw ∨ k = g2)
  lg : g = g2 ∨ w.heap.size ≤ g
  fits : l.length + 1 ≤ cap

/-- The path behind the call: grown where the call inside failed. -/
def way (fail : Bool) (l : List Stp) (s : Stp) : List Stp := if fail then l ++ [s] else l

/-- What the call leaves. -/
structure InEnd (w w' : World) (bw b14 b15 g2 gs caps gq capq : Nat) (fail : Bool) (l : List Stp) (s : Stp) : Prop where
  calls : w'.cell? ⟨b14, 0, none⟩ = some (.int .i64 1)
  seen : w'.cell? ⟨b15, 0, none⟩ = some (.slice (some ⟨gs, 0, none⟩) (l ++ [s]).length caps)
  holds : Holds3 w' gs (l ++ [s])
  path : w'.cell? ⟨bw, 2, none⟩ = some (.slice (some ⟨gq, 0, none⟩) (way fail l s).length capq)
  holdsQ : Holds3 w' gq (way fail l s)
  pos : w'.cell? ⟨bw, 1, none⟩ = w.cell? ⟨bw, 1, none⟩
  but : But w w' (fun k => k = bw ∨ k = g2 ∨ k = b14 ∨ k = b15)

theorem mid_mk {w w0 w1 : World} {bw base g2 n g cap H : Nat} {l : List Stp} {s : Stp} {y : Value} (h0 : Below w.heap.size w w0) (hc : w.cell? ⟨bw, 2, none⟩ = some y) (hf : w.frozen? ⟨bw, 2, none⟩ = false)
    (hbw : bw < w.heap.size) (hne : bw ≠ g2) (hown1 : w1.ownsRow base 29 3 (.slice (some ⟨g, 0, none⟩) (n + 1) cap) (n + 1) (flat l ++ s.cells)) (hgrow1 : w0.grownBy w1 (some g2)) (hat : some g2 = some g ∨ g = H) (hH : w.heap.size ≤ H) (hn : n = l.length) (hb : bw ≠ g) :
    Mid w (w1.setCell ⟨bw, 2, none⟩ (.slice (some ⟨g, 0, none⟩) (n + 1) cap)) bw g2 g cap l s := by
  subst hn
  have hs0 := h0.size
  have hfar : some bw ≠ some g2 := fun e => hne (by cases e; rfl)
  have k1 : ∀ o, w1.cell? ⟨bw, o, none⟩ = w.cell? ⟨bw, o, none⟩ := fun o => (hgrow1.cell_far ⟨bw, o, none⟩ (by simp; omega) hfar).trans (h0.cell (p := ⟨bw, o, none⟩) hbw)
  have k2 : w1.frozen? ⟨bw, 2, none⟩ = w.frozen? ⟨bw, 2, none⟩ := (hgrow1.frozen_far ⟨bw, 2, none⟩ (by simp; omega) hfar).trans (h0.frozen (p := ⟨bw, 2, none⟩) hbw)
  have hfit : l.length + 1 ≤ cap := by
    obtain ⟨_, h2⟩ := hown1
    rcases h2 with ⟨h2, _⟩ | ⟨g', cap', cur, hv, _, _, hle, _⟩
    · cases h2
    · cases hv; exact hle
  refine ⟨World.cell?_setCell_same _ _ _ ((k1 2).trans hc), ?_, ?_, ?_, ?_, ?_, hfit⟩
  · rw [World.frozen?_setCell, k2]; exact hf
  · rw [World.cell?_setCell_other _ _ _ _ (by simp)]; exact k1 1
  · rw [← flat_snoc] at hown1
    exact (holds_own hown1 (by simp)).kept (Below.heap_setCell _ _ _ _ (fun e => hb e.symm))
  · exact (((But.below h0).trans (But.grown hgrow1)).trans (But.set _ _ _ _)).mono (fun k hk => by rcases hk with (h | h) | h <;> simp_all)
  · rcases hat with h | h
    · exact Or.inl (by cases h; rfl)
    · exact Or.inr (by omega)

theorem keep3 {w w0 w1 : World} {k : Nat} {row : Option Nat} (h0 : Below w.heap.size w w0) (hg : w0.grownBy w1 row) (hk : k < w.heap.size) (far : some k ≠ row) (o : Nat) :
    w1.cell? ⟨k, o, none⟩ = w.cell? ⟨k, o, none⟩ ∧ w1.frozen? ⟨k, o, none⟩ = w.frozen? ⟨k, o, none⟩ := by
  have hs0 := h0.size
  have l0 : k < w0.heap.size := by omega
  exact ⟨(hg.cell_far ⟨k, o, none⟩ l0 far).trans (h0.cell (p := ⟨k, o, none⟩) hk), (hg.frozen_far ⟨k, o, none⟩ l0 far).trans (h0.frozen (p := ⟨k, o, none⟩) hk)⟩

theorem Holds3.front {w : World} {g : Nat} {l : List Stp} {s : Stp} (h : Holds3 w g (l ++ [s])) : Holds3 w g l := by
  intro j hj
  have := h j (by simp; omega)
  rwa [List.getElem_append_left hj] at this

theorem in_fail {w wc w1 : World} {bw b14 b15 g2 gs caps g cap : Nat} {l : List Stp} {s : Stp} (hM : Mid w wc bw g2 g cap l s) (hE : CloEnd wc w1 b14 b15 gs caps (l ++ [s])) (h15 : b15 < w.heap.size) (n2 : g2 < bw) (n3 : bw < b14) (n6 : b14 < b15) :
    InEnd w w1 bw b14 b15 g2 gs caps g cap true l s := by
  have hsz := hM.but.size
  have hgl := hM.lg
  have hg : g < wc.heap.size := World.block_lt_of_cell? _ _ (hM.holds 0 (by simp)).1
  refine ⟨hE.calls, hE.seen, hE.holds, ?_, ?_, ?_, ?_⟩
  · rw [(hE.but.cell 2 (k := bw) (by omega) (by omega)).1, hM.path]; simp [way]
  · exact hM.holds.kept (hE.but.block g hg (by omega))
  · rw [(hE.but.cell 1 (k := bw) (by omega) (by omega)).1, hM.pos]
  · exact (hM.but.trans hE.but).mono (fun k hk => by omega)

theorem in_ok {w wc w1 wy : World} {bw b14 b15 g2 gs caps g cap n : Nat} {l : List Stp} {s : Stp} (hM : Mid w wc bw g2 g cap l s) (hE : CloEnd wc w1 b14 b15 gs caps (l ++ [s])) (hy : Below w1.heap.size w1 wy) (hn : n = l.length) (h15 : b15 < w.heap.size) (n2 : g2 < bw) (n3 : bw < b14) (n6 : b14 < b15) :
    InEnd w (wy.setCell ⟨bw, 2, none⟩ (.slice (some ⟨g, 0, none⟩) n cap)) bw b14 b15 g2 gs caps g cap false l s := by
  subst hn
  obtain ⟨h1, h2, h3, h4, h5, h6, h7⟩ := in_fail hM hE h15 n2 n3 n6
  have hsz := h7.size
  have hsz1 := hM.but.size
  have hsz2 := hE.but.size
  have hgs := hE.le
  have hgl := hM.lg
  have lgs : gs < w1.heap.size := World.block_lt_of_cell? _ _ (hE.holds 0 (by simp)).1
  have lg : g < wc.heap.size := World.block_lt_of_cell? _ _ (hM.holds 0 (by simp)).1
  have hb := ((But.below hy).trans (But.set wy bw 2 (.slice (some ⟨g, 0, none⟩) l.length cap))).mono (T := fun k => k = bw) (fun k h => h.elim False.elim id)
  refine ⟨?_, ?_, ?_, ?_, ?_, ?_, ?_⟩
  · rw [(hb.cell 0 (k := b14) (by omega) (by omega)).1]; exact h1
  · rw [(hb.cell 0 (k := b15) (by omega) (by omega)).1]; exact h2
  · exact h3.kept (hb.block gs lgs (by omega))
  · exact World.cell?_setCell_same _ _ _ ((hy.cell (p := ⟨bw, 2, none⟩) (show bw < w1.heap.size by omega)).trans h4)
  · have h5' : Holds3 w1 g (l ++ [s]) := h5
    exact h5'.front.kept (hb.block g (by omega) (by omega))
  · rw [World.cell?_setCell_other _ _ _ _ (by simp), hy.cell (p := ⟨bw, 1, none⟩) (show bw < w1.heap.size by omega)]; exact h6
  · exact (h7.trans hb).mono (fun k hk => hk.elim id Or.inl)

set_option maxRecDepth 100000 in
set_option maxHeartbeats 2000000 in
theorem within_any (b14 b12 b15 b6 b13 bw g2 cap2 base bz : Nat) (l : List Stp) (s : Stp) (fail : Bool) (w : World) (hn : l.length ≤ 1024)
    (c14 : w.cell? ⟨b14, 0, none⟩ = some (.int .i64 0)) (f14 : w.frozen? ⟨b14, 0, none⟩ = false) (c12 : w.cell? ⟨b12, 0, none⟩ = some (.pointer (some ⟨bw, 0, none⟩)))
    (cw : w.cell? ⟨bw, 2, none⟩ = some (.slice (some ⟨g2, 0, none⟩) l.length cap2)) (fw : w.frozen? ⟨bw, 2, none⟩ = false)
    (hown : w.ownsRow base 29 3 (.slice (some ⟨g2, 0, none⟩) l.length cap2) l.length (flat l))
    (c15 : w.cell? ⟨b15, 0, none⟩ = some (.slice none 0 0)) (f15 : w.frozen? ⟨b15, 0, none⟩ = false) (c6 : w.cell? ⟨b6, 0, none⟩ = some (.bool fail)) (c13 : w.cell? ⟨b13, 0, none⟩ = some (.iface 41 (.pointer (some ⟨bz, 0, none⟩))))
    (n1 : b6 < g2) (n2 : g2 < bw) (n3 : bw < b12) (n4 : b12 < b13) (n5 : b13 < b14) (n6 : b14 < b15) :
    Calls Yba.prog 6 #[.pointer (some ⟨bw, 0, none⟩), .agg #[.int .i64 s.k, .string s.s, .int .i64 s.i], .func (.func 7) #[] #[.pointer (some ⟨b14, 0, none⟩), .pointer (some ⟨b12, 0, none⟩), .pointer (some ⟨b15, 0, none⟩), .pointer (some ⟨b6, 0, none⟩), .pointer (some ⟨b13, 0, none⟩)]] w
      fun e w' => e = .returned (if fail then .iface 41 (.pointer (some ⟨bz, 0, none⟩)) else .nilIface) ∧ ∃ gs caps gq capq, InEnd w w' bw b14 b15 g2 gs caps gq capq fail l s := by
  obtain ⟨i0, hi, hz0, hz1, hz2⟩ := info_parts info29
  have hbs := buildS29
  have l15 : b15 < w.heap.size := World.block_lt_of_cell? _ _ c15
  have hbl := hown.lt g2 rfl
  have lw : bw < w.heap.size := World.block_lt_of_cell? _ _ cw
  obtain ⟨n, hn'⟩ : ∃ n, n = l.length := ⟨_, rfl⟩
  have HN : Hid (n = l.length) := hn'
  rw [← hn'] at hn cw hown
  clear hn'
  have hfar : some bw ≠ (Value.slice (some ⟨g2, 0, none⟩) n cap2).ownBlock := fun e => by simp [Value.ownBlock] at e; omega
  have hlen0 : (l ++ [s]).length = n + 1 := by rw [List.length_append, ← HN.out]; rfl
  have hlen : Hid ((l ++ [s]).length = n + 1) := hlen0
  clear hlen0
  go_enter Yba.func6, Yba.ntmps6
  go_upto_region 1 with fail
  go_cut [] (fun wx => ∃ g cap, Mid w wx bw g2 g cap l s)
  case first =>
    go_region_law (first | (refine step_append_lies _ rfl (.tmp 12) (.tmp 14) 25 rfl base 29 i0 _ 3 32 Yba.underlying25 hi hz0 hz1 hz2 rfl (by decide) (.slice (some ⟨g2, 0, none⟩) n cap2) n (flat l) rfl (by exact (hown.alloc _).alloc _) ⟨w.heap.size + 1, 0, none⟩ 1 1 s.cells rfl rfl (by exact news3' w _ s 29) (cells_one s) (by decide) (by unfold maxLen; omega) (by omega) (by simp; omega) _ rfl ?_; intro g cap w1 hown1 hgrow1 hat1 hlt1; have hcl := (keep3 (w := w) (by exact (((Below.refl _ _).alloc (Nat.le_refl _) _).alloc (by simp) _).drew) hgrow1 lw hfar 2).1.trans cw; have hfl := (keep3 (w := w) (by exact (((Below.refl _ _).alloc (Nat.le_refl _) _).alloc (by simp) _).drew) hgrow1 lw hfar 2).2.trans fw))
    all_goals (go_wp2_with fail; go_meet; exact ⟨g, cap, mid_mk (by exact (((Below.refl _ _).alloc (Nat.le_refl _) _).alloc (by simp) _).drew) cw fw lw (by omega) hown1 hgrow1 hat1 (by simp; omega) HN.out (by simp [Value.ownBlock] at hat1; omega)⟩)
  case rest =>
    obtain ⟨g, cap, hM⟩ := hcut
    have k14 := hM.but.cell 0 (k := b14) (by omega) (by omega)
    have k12 := hM.but.cell 0 (k := b12) (by omega) (by omega)
    have k15 := hM.but.cell 0 (k := b15) (by omega) (by omega)
    have k6 := hM.but.cell 0 (k := b6) (by omega) (by omega)
    have k13 := hM.but.cell 0 (k := b13) (by omega) (by omega)
    have hgl := hM.lg
    have hsz := hM.but.size
    have hcall := clo_any b14 b12 b15 b6 b13 bw g cap (l ++ [s]) fail (.iface 41 (.pointer (some ⟨bz, 0, none⟩))) wc (by rw [hlen.out]; omega) (by rw [hlen.out]; omega) (k14.1.trans c14) (k14.2.trans f14) (k12.1.trans c12) (by rw [hM.path]; simp) hM.holds (k15.1.trans c15) (k15.2.trans f15) (k6.1.trans c6) (k13.1.trans c13) (by omega) (by omega) (by omega) (by omega) (by omega) (by omega) (by omega) (by omega)
    have HM : Hid (Mid w wc bw g2 g cap l s) := hM
    clear hM k14 k12 k15 k6 k13
    go_wp2_with fail
    refine hcall.mono ?_
    rintro e w1 ⟨rfl, gs, caps, hE⟩
    clear hcall
    have HE : Hid (CloEnd wc w1 b14 b15 gs caps (l ++ [s])) := hE
    have e2 : w1.cell? ⟨bw, 2, none⟩ = some (.slice (some ⟨g, 0, none⟩) (n + 1) cap) := by rw [(hE.but.cell 2 (k := bw) (by omega) (by omega)).1, HM.out.path, HN.out]
    have g2' : w1.frozen? ⟨bw, 2, none⟩ = false := by rw [(hE.but.cell 2 (k := bw) (by omega) (by omega)).2, HM.out.pathF]
    clear hE
    cases fail
    · have hfit : (n : Int) + 1 ≤ (cap : Int) := by have := HM.out.fits; rw [← HN.out] at this; omega
      go_upto_region 5 with fail
      go_cut [] (fun wx => ∃ wy, Below w1.heap.size w1 wy ∧ wx = wy.setCell ⟨bw, 2, none⟩ (.slice (some ⟨g, 0, none⟩) n cap))
      case first =>
        go_region
        all_goals (go_wp2_with fail; go_meet; exact ⟨_, (Below.refl _ _).drew, rfl⟩)
      case rest =>
        obtain ⟨wy, hy, rfl⟩ := hcut
        go_wp2_with fail
        go_ret
        exact ⟨rfl, gs, caps, g, cap, in_ok HM.out HE.out hy HN.out l15 n2 (by omega) n6⟩
    · go_wp2_with fail
      go_ret
      exact ⟨rfl, gs, caps, g, cap, in_fail HM.out HE.out l15 n2 (by omega) n6⟩

end Go.Proofs.Ybulkcci
