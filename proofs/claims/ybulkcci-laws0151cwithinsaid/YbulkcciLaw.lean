/-
  'LawS0151CWithin' BY ITS CONTRACT.
-/
import Derived.Test.YbulkcciIn
import Derived.LaidEql
namespace Go.Proofs.Ybulkcci
open Go.RowKit

theorem Came.on {w w' : World} {ao : Option Addr} {l : List Stp} {B : Nat} (h : Came w ao l) (hB : Below B w w') (hle : w.heap.size ≤ B) : Came w' ao l := by
  intro j hj
  obtain ⟨b, off, e, hb, h0, h1, h2⟩ := h j hj
  have := hB.size
  refine ⟨b, off, e, ?_, (hB.cell (p := ⟨b, off + j * 3, none⟩) (show b < B by omega)).trans h0, (hB.cell (p := ⟨b, off + j * 3 + 1, none⟩) (show b < B by omega)).trans h1, (hB.cell (p := ⟨b, off + j * 3 + 2, none⟩) (show b < B by omega)).trans h2⟩
  have := World.block_lt_of_cell? _ _ ((hB.cell (p := ⟨b, off + j * 3, none⟩) (show b < B by omega)).trans h0)
  exact this

theorem path_g (ao : Option Addr) (cap : Nat) (l : List Stp) (w : World) (hn : l.length ≤ 1024) (hcame : Came w ao l) :
    Calls Yba.prog 4 #[.slice ao l.length cap] w fun e w' => ∃ g, g = w.heap.size ∧ e = .returned (.slice (some ⟨g, 0, none⟩) l.length (l.length + 1)) ∧
      w'.ownsRow g 29 3 (.slice (some ⟨g, 0, none⟩) l.length (l.length + 1)) l.length (flat l) ∧ Below g w w' :=
  (path_any ao cap l w hn hcame).mono fun _ _ h => ⟨_, rfl, h.1, h.2.1, h.2.2⟩

theorem new_any (m : ByteArray) (w : World) : Calls Yba.prog 5 #[.string m] w fun e w' => e = .returned (.iface 41 (.pointer (some ⟨w.heap.size, 0, none⟩))) ∧ w' = w.alloc (.cells #[.string m] 43) := by
  go_enter Yba.func5, Yba.ntmps5
  go_wp2
  go_ret
  exact ⟨rfl, rfl⟩

theorem But.toBelow {w w' : World} {S : Nat → Prop} {B : Nat} (h : But w w' S) (hS : ∀ k, S k → B ≤ k) (hB : B ≤ w.heap.size) : Below B w w' :=
  ⟨h.os, h.tape, h.output, h.size, fun k hk => h.block k (by omega) (fun hk' => by have := hS k hk'; omega)⟩

theorem own_kept {w w' : World} {base : Nat} {e : TypeId} {size g n cap : Nat} {xs : List Value} (h : w.ownsRow base e size (.slice (some ⟨g, 0, none⟩) n cap) n xs) (hb : w'.heap[g]? = w.heap[g]?) : w'.ownsRow base e size (.slice (some ⟨g, 0, none⟩) n cap) n xs := by
  obtain ⟨h1, h2⟩ := h
  refine ⟨h1, ?_⟩
  rcases h2 with h2 | ⟨g', cap', cur, hv, hg, hh, r⟩
  · exact Or.inl h2
  · cases hv
    exact Or.inr ⟨g, cap, cur, rfl, hg, hb.trans hh, r⟩

theorem eq_at (ga gb ca cb n : Nat) (l : List Stp) (w : World) (hl : l.length = n) (hn : n ≤ 1025) (hA : Holds3 w ga l) (hB : Holds3 w gb l) :
    Calls Yba.prog 8 #[.slice (some ⟨ga, 0, none⟩) n ca, .slice (some ⟨gb, 0, none⟩) n cb] w fun e w' => e = .returned (.bool true) ∧ Below w.heap.size w w' := by
  subst hl; exact eq_any ga gb ca cb l w hn hA hB

theorem Holds3.on {w w' : World} {g : Nat} {l : List Stp} (h : Holds3 w g l) (hB : Below w.heap.size w w') : Holds3 w' g l := by
  intro j hj
  have hg : g < w.heap.size := World.block_lt_of_cell? _ _ (h j hj).1
  exact (h.kept (hB.block g hg)) j hj

theorem eql_same (w : World) (a : Addr) : (binOp .eql 33 (.iface 41 (.pointer (some a))) (.iface 41 (.pointer (some a)))).run Yba.prog w = .ok (.bool true) w :=
  run_eql_iface_ptr_same w a Yba.underlying33 Yba.underlying41 (i := Yba.t41) (j := Yba.t43) (by kernel_rfl) (by rfl) (by kernel_rfl)

/-- The variables as the law lays them. -/
structure SetUp (wD wE : World) (v : Value) (p : Int) : Prop where
  path : wE.cell? ⟨wD.heap.size, 2, none⟩ = some v
  pathF : wE.frozen? ⟨wD.heap.size, 2, none⟩ = false
  pos : wE.cell? ⟨wD.heap.size, 1, none⟩ = some (.int .i64 p)
  c12 : wE.cell? ⟨wD.heap.size + 1, 0, none⟩ = some (.pointer (some ⟨wD.heap.size, 0, none⟩))
  c13 : wE.cell? ⟨wD.heap.size + 1 + 1 + 1, 0, none⟩ = some (.iface 41 (.pointer (some ⟨wD.heap.size + 1 + 1, 0, none⟩)))
  c14 : wE.cell? ⟨wD.heap.size + 1 + 1 + 1 + 1, 0, none⟩ = some (.int .i64 0)
  f14 : wE.frozen? ⟨wD.heap.size + 1 + 1 + 1 + 1, 0, none⟩ = false
  c15 : wE.cell? ⟨wD.heap.size + 1 + 1 + 1 + 1 + 1, 0, none⟩ = some (.slice none 0 0)
  f15 : wE.frozen? ⟨wD.heap.size + 1 + 1 + 1 + 1 + 1, 0, none⟩ = false
  below : Below wD.heap.size wD wE

theorem setUp (wD : World) (v : Value) (p : Int) (m : ByteArray) :
    SetUp wD ((((((wD.alloc (.cells #[.slice none 0 0, .int .i64 p, v, .nilIface] 35)).alloc (.cells #[.pointer (some ⟨wD.heap.size, 0, none⟩)] 30)).alloc (.cells #[.string m] 43)).alloc (.cells #[.iface 41 (.pointer (some ⟨wD.heap.size + 1 + 1, 0, none⟩))] 33)).alloc (.cells #[.int .i64 0] 3)).alloc (.cells #[.slice none 0 0] 25)) v p := by
  refine ⟨?_, ?_, ?_, ?_, ?_, ?_, ?_, ?_, ?_, ?_⟩
  case refine_10 => exact ((((((Below.refl _ _).alloc (Nat.le_refl _) _).alloc (by simp) _).alloc (by simp; omega) _).alloc (by simp; omega) _).alloc (by simp; omega) _).alloc (by simp; omega) _
  all_goals simp [go_sem]

set_option maxRecDepth 100000 in
set_option maxHeartbeats 2000000 in
theorem law_any (ao : Option Addr) (cap : Nat) (l : List Stp) (s : Stp) (fail : Bool) (p : Int) (w : World) (hcame : Came w ao l) :
    Calls Yba.prog 3 #[.slice ao l.length cap, .agg #[.int .i64 s.k, .string s.s, .int .i64 s.i], .bool fail, .int .i64 p] w fun e w' => e = .returned (.bool true) ∧ Below w.heap.size w w' := by
  obtain ⟨i0, hi, hz0, hz1, hz2⟩ := info_parts info29
  obtain ⟨n, hn'⟩ : ∃ n, n = l.length := ⟨_, rfl⟩
  have hpath : ∀ wx : World, l.length ≤ 1024 → Came wx ao l → Calls Yba.prog 4 #[.slice ao n cap] wx fun e w' => ∃ g, g = wx.heap.size ∧ e = .returned (.slice (some ⟨g, 0, none⟩) n (n + 1)) ∧
      w'.ownsRow g 29 3 (.slice (some ⟨g, 0, none⟩) n (n + 1)) n (flat l) ∧ Below g wx w' := by subst hn'; exact fun wx h1 h2 => path_g ao cap l wx h1 h2
  have HN : Hid (n = l.length) := hn'
  rw [← hn']
  have HP : Hid _ := hpath
  have HC : Hid (Came w ao l) := hcame
  clear hn' hpath hcame
  have hl1 : (l ++ [s]).length = n + 1 := by rw [List.length_append, ← HN.out]; rfl
  have HL : Hid ((l ++ [s]).length = n + 1) := hl1
  clear hl1
  by_cases hn : n ≤ 1024
  · go_enter Yba.func3, Yba.ntmps3
    go_wp2_with fail
    refine (HP.out _ (by rw [← HN.out]; exact hn) (HC.out.on (((Below.refl _ _).alloc (Nat.le_refl _) _).alloc (by simp) _) (Nat.le_refl _))).mono ?_
    rintro e wA ⟨gA, hgA, rfl, hownA, hBA⟩
    have hgA' : w.heap.size + 1 < gA := by rw [hgA]; simp
    have a0 : wA.cell? ⟨w.heap.size, 0, none⟩ = some (.int .i64 s.k) := (hBA.cell (p := ⟨w.heap.size, 0, none⟩) (show w.heap.size < gA by omega)).trans (by simp)
    have a1 : wA.cell? ⟨w.heap.size, 1, none⟩ = some (.string s.s) := (hBA.cell (p := ⟨w.heap.size, 1, none⟩) (show w.heap.size < gA by omega)).trans (by simp)
    have a2 : wA.cell? ⟨w.heap.size, 2, none⟩ = some (.int .i64 s.i) := (hBA.cell (p := ⟨w.heap.size, 2, none⟩) (show w.heap.size < gA by omega)).trans (by simp)
    have a6 : wA.cell? ⟨w.heap.size + 1, 0, none⟩ = some (.bool fail) := (hBA.cell (p := ⟨w.heap.size + 1, 0, none⟩) (show w.heap.size + 1 < gA by omega)).trans (by simp)
    have hBwA : Below w.heap.size w wA := ((((Below.refl _ _).alloc (Nat.le_refl _) _).alloc (by simp) _)).trans (hBA.mono (by omega))
    clear hBA hgA
    have hlA := (hownA.lt gA rfl).2
    have hA1 : Hid (Holds3 wA gA l) := holds_own hownA HN.out
    clear hownA
    go_wp2_with fail
    refine (HP.out _ (by rw [← HN.out]; exact hn) (HC.out.on (hBwA.alloc hBwA.size _) (Nat.le_refl _))).mono ?_
    rintro e wB ⟨gB, hgB, rfl, hownB, hBB⟩
    have hgB' : wA.heap.size < gB := by rw [hgB]; simp
    have b0 : wB.cell? ⟨wA.heap.size, 0, none⟩ = some (.int .i64 s.k) := (hBB.cell (p := ⟨wA.heap.size, 0, none⟩) (show wA.heap.size < gB by omega)).trans (by simp)
    have b1 : wB.cell? ⟨wA.heap.size, 1, none⟩ = some (.string s.s) := (hBB.cell (p := ⟨wA.heap.size, 1, none⟩) (show wA.heap.size < gB by omega)).trans (by simp)
    have b2 : wB.cell? ⟨wA.heap.size, 2, none⟩ = some (.int .i64 s.i) := (hBB.cell (p := ⟨wA.heap.size, 2, none⟩) (show wA.heap.size < gB by omega)).trans (by simp)
    have b6 : wB.cell? ⟨w.heap.size + 1, 0, none⟩ = some (.bool fail) := (hBB.cell (p := ⟨w.heap.size + 1, 0, none⟩) (show w.heap.size + 1 < gB by omega)).trans (by rw [World.cell?_alloc_past _ _ _ (show w.heap.size + 1 < wA.heap.size by omega)]; exact a6)
    have hA2 : Hid (Holds3 wB gA l) := hA1.out.kept ((hBB.block gA (by omega)).trans (Below.heap_alloc _ _ _ hlA))
    have hBwB : Below w.heap.size w wB := (hBwA.alloc hBwA.size _).trans (hBB.mono (by omega))
    have hlB := (hownB.lt gB rfl).2
    clear hBB hgB hA1 a0 a1 a2 a6
    go_wp2_with (at_builtin; refine wpList_append_fits _ rfl (.tmp 31) (.tmp 33) 25 rfl gB 29 i0 3 Yba.underlying25 hi hz1 gB n (n + 1) _ rfl (hownB.alloc _) ⟨wB.heap.size, 0, none⟩ 1 1 s.cells rfl rfl (news3 wB s 29) (cells_one s) (by omega) ?_; intro wC hownC hgrowC)
    have hszB := hBwB.size
    have hlC := (hownC.lt gB rfl).2
    have hgC := hgrowC.size
    have hBC : Below gB wB wC := ((Below.refl gB wB).alloc (by omega) _).grown hgrowC (by simp; omega) (fun k hk => by cases hk; exact Nat.le_refl _)
    have hBwC : Below w.heap.size w wC := hBwB.trans (hBC.mono (by omega))
    have hH3 : Hid (Holds3 wC gB (l ++ [s])) := holds_own (by rw [flat_snoc]; exact hownC) (by simp [← HN.out])
    have hA3 : Hid (Holds3 wC gA l) := hA2.out.kept (hBC.block gA (by omega))
    have hCs := hBC.size
    clear hA2 hownC hgrowC hownB
    refine (HP.out _ (by rw [← HN.out]; exact hn) (HC.out.on hBwC (Nat.le_refl _))).mono ?_
    rintro e wD ⟨gD, hgD, rfl, hownD, hBD⟩
    have hgD' : wC.heap.size ≤ gD := by rw [hgD]; exact Nat.le_refl _
    have dc : ∀ k o, k < gB → wD.cell? ⟨k, o, none⟩ = wB.cell? ⟨k, o, none⟩ := fun k o hk => (hBD.cell (p := ⟨k, o, none⟩) (show k < gD by omega)).trans (hBC.cell (p := ⟨k, o, none⟩) hk)
    have d0 : wD.cell? ⟨wA.heap.size, 0, none⟩ = some (.int .i64 s.k) := (dc _ _ hgB').trans b0
    have d1 : wD.cell? ⟨wA.heap.size, 1, none⟩ = some (.string s.s) := (dc _ _ hgB').trans b1
    have d2 : wD.cell? ⟨wA.heap.size, 2, none⟩ = some (.int .i64 s.i) := (dc _ _ hgB').trans b2
    have d6 : wD.cell? ⟨w.heap.size + 1, 0, none⟩ = some (.bool fail) := (dc _ _ (by omega)).trans b6
    have hA4 : Hid (Holds3 wD gA l) := hA3.out.kept (hBD.block gA (by omega))
    have hH4 : Hid (Holds3 wD gB (l ++ [s])) := hH3.out.kept (hBD.block gB (by omega))
    have hBwD : Below w.heap.size w wD := hBwC.trans (hBD.mono (by omega))
    have hlD := (hownD.lt gD rfl).2
    clear dc hBD hgD hA3 hH3 b0 b1 b2 b6 hBC hBwC hBwB hBwA
    go_upto_region 8 with fail
    go_wp2_with fail
    refine (new_any _ _).mono ?_
    rintro e wE ⟨rfl, rfl⟩
    go_upto_region 11 with fail
    refine (fun (h : ∀ wE, SetUp wD wE (.slice (some ⟨gD, 0, none⟩) n (n + 1)) p → Code.wp Yba.prog _ _ _ wE) => h _ (setUp wD _ p _)) ?_
    intro wE hE
    have e0 := (hE.below.cell (p := ⟨wA.heap.size, 0, none⟩) (show wA.heap.size < wD.heap.size by omega)).trans d0
    have e1 := (hE.below.cell (p := ⟨wA.heap.size, 1, none⟩) (show wA.heap.size < wD.heap.size by omega)).trans d1
    have e2 := (hE.below.cell (p := ⟨wA.heap.size, 2, none⟩) (show wA.heap.size < wD.heap.size by omega)).trans d2
    have e6 := (hE.below.cell (p := ⟨w.heap.size + 1, 0, none⟩) (show w.heap.size + 1 < wD.heap.size by omega)).trans d6
    have c12 := hE.c12
    have hsE := hE.below.size
    have hlE : wD.heap.size + 1 + 1 + 1 + 1 + 1 < wE.heap.size := World.block_lt_of_cell? _ _ hE.c15
    have hA5 : Holds3 wE gA l := hA4.out.kept (hE.below.block gA (by omega))
    have hH5 : Holds3 wE gB (l ++ [s]) := hH4.out.kept (hE.below.block gB (by omega))
    have hcall := within_any _ _ _ _ _ _ gD (n + 1) gD _ l s fail wE (by rw [← HN.out]; exact hn) hE.c14 hE.f14 hE.c12 (by rw [← HN.out]; exact hE.path) hE.pathF (by rw [← HN.out]; exact own_kept hownD (hE.below.block gD (by omega))) hE.c15 hE.f15 e6 hE.c13 (by omega) (by omega) (by omega) (by omega) (by omega) (by omega)
    go_wp2_with fail
    refine hcall.mono ?_
    rintro e w1 ⟨rfl, gs, caps, gq, capq, hI⟩
    clear hcall
    have hb := hI.but
    have hs1 := hb.size
    have x14 := hI.calls
    have x15 : w1.cell? ⟨wD.heap.size + 1 + 1 + 1 + 1 + 1, 0, none⟩ = some (.slice (some ⟨gs, 0, none⟩) (n + 1) caps) := by rw [hI.seen, HL.out]
    have x12 := (hb.cell 0 (k := wD.heap.size + 1) (by omega) (by omega)).1.trans c12
    have x13 := (hb.cell 0 (k := wD.heap.size + 1 + 1 + 1) (by omega) (by omega)).1.trans hE.c13
    have x6 := (hb.cell 0 (k := w.heap.size + 1) (by omega) (by omega)).1.trans e6
    have x1 := hI.pos.trans hE.pos
    have x2 := hI.path
    have hA6 : Holds3 w1 gA l := hA5.kept (hb.block gA (by omega) (by omega))
    have hH6 : Holds3 w1 gB (l ++ [s]) := hH5.kept (hb.block gB (by omega) (by omega))
    have hS6 := hI.holds
    have hQ6 := hI.holdsQ
    have hBw1 : Below w.heap.size w w1 := (hBwD.trans (hE.below.mono (by omega))).trans (hb.toBelow (fun k hk => by omega) (by omega))
    clear hI hb hA4 hH4 hA5 hH5 e0 e1 e2 e6 c12 d0 d1 d2 d6 hE hownD hBwD
    have lw1 : wD.heap.size + 1 + 1 + 1 + 1 + 1 < w1.heap.size := by omega
    cases fail
    · have x2' : w1.cell? ⟨wD.heap.size, 2, none⟩ = some (.slice (some ⟨gq, 0, none⟩) n capq) := by rw [HN.out]; exact x2
      have hQ7 : Holds3 w1 gq l := hQ6
      clear x2 hQ6
      go_wp2_with fail
      refine (eq_at gs gB caps (n + 1) (n + 1) (l ++ [s]) w1 HL.out (by omega) hS6 hH6).mono ?_
      rintro e w2 ⟨rfl, hB2⟩
      have y12 := (hB2.cell (p := ⟨wD.heap.size + 1, 0, none⟩) (show wD.heap.size + 1 < w1.heap.size by omega)).trans x12
      have y13 := (hB2.cell (p := ⟨wD.heap.size + 1 + 1 + 1, 0, none⟩) (show wD.heap.size + 1 + 1 + 1 < w1.heap.size by omega)).trans x13
      have y6 := (hB2.cell (p := ⟨w.heap.size + 1, 0, none⟩) (show w.heap.size + 1 < w1.heap.size by omega)).trans x6
      have y1 := (hB2.cell (p := ⟨wD.heap.size, 1, none⟩) (show wD.heap.size < w1.heap.size by omega)).trans x1
      have y2 := (hB2.cell (p := ⟨wD.heap.size, 2, none⟩) (show wD.heap.size < w1.heap.size by omega)).trans x2'
      have hA8 := hA6.on hB2
      have hH8 := hH6.on hB2
      have hQ8 := hQ7.on hB2
      have hBw2 := hBw1.trans (hB2.mono hBw1.size)
      have hs2 := hB2.size
      have hz := hBw1.size
      clear x14 x15 x12 x13 x6 x1 x2' hA6 hH6 hS6 hQ7 hB2 hBw1
      go_wp2_with fail
      refine (eq_at gq gA capq (n + 1) n l w2 HN.out.symm (by omega) hQ8 hA8).mono ?_
      rintro e w3 ⟨rfl, hB3⟩
      go_wp2_with fail
      go_ret
      exact ⟨rfl, hBw2.trans (hB3.mono (by omega))⟩
    · have x2' : w1.cell? ⟨wD.heap.size, 2, none⟩ = some (.slice (some ⟨gq, 0, none⟩) (n + 1) capq) := by rw [← HL.out]; exact x2
      have hQ7 : Holds3 w1 gq (l ++ [s]) := hQ6
      clear x2 hQ6
      go_wp2_with fail
      refine (eq_at gs gB caps (n + 1) (n + 1) (l ++ [s]) w1 HL.out (by omega) hS6 hH6).mono ?_
      rintro e w2 ⟨rfl, hB2⟩
      have y12 := (hB2.cell (p := ⟨wD.heap.size + 1, 0, none⟩) (show wD.heap.size + 1 < w1.heap.size by omega)).trans x12
      have y13 := (hB2.cell (p := ⟨wD.heap.size + 1 + 1 + 1, 0, none⟩) (show wD.heap.size + 1 + 1 + 1 < w1.heap.size by omega)).trans x13
      have y6 := (hB2.cell (p := ⟨w.heap.size + 1, 0, none⟩) (show w.heap.size + 1 < w1.heap.size by omega)).trans x6
      have y1 := (hB2.cell (p := ⟨wD.heap.size, 1, none⟩) (show wD.heap.size < w1.heap.size by omega)).trans x1
      have y2 := (hB2.cell (p := ⟨wD.heap.size, 2, none⟩) (show wD.heap.size < w1.heap.size by omega)).trans x2'
      have hA8 := hA6.on hB2
      have hH8 := hH6.on hB2
      have hQ8 := hQ7.on hB2
      have hBw2 := hBw1.trans (hB2.mono hBw1.size)
      have hs2 := hB2.size
      have hz := hBw1.size
      have hqs := eql_same
      clear x14 x15 x12 x13 x6 x1 x2' hA6 hH6 hS6 hQ7 hB2 hBw1
      go_wp2_with fail
      refine (eq_at gq gB capq (n + 1) (n + 1) (l ++ [s]) w2 HL.out (by omega) hQ8 hH8).mono ?_
      rintro e w3 ⟨rfl, hB3⟩
      go_wp2_with fail
      go_ret
      exact ⟨rfl, hBw2.trans (hB3.mono (by omega))⟩
  · go_enter Yba.func3, Yba.ntmps3
    go_wp2_with fail
    go_ret
    exact ⟨rfl, ((Below.refl _ _).alloc (Nat.le_refl _) _).alloc (by simp) _⟩

end Go.Proofs.Ybulkcci
