/-
  (*callRun).interrogateHLR BY ITS CONTRACT.
-/
import Derived.Test.YbulkcbuEnv
import Derived.Test.YbulkcbuFwd
import Derived.Test.YbulkcbuSub2
import Derived.Test.YbulkcbuSub3
import Derived.Deep.RegionHeld3
namespace Go.Proofs.Ybulkcbu
open Go.RowKit

theorem own_on {w w' : World} {base : Nat} {e : TypeId} {size : Nat} {v : Value} {n : Nat} {xs : List Value} (h : w.ownsRow base e size v n xs) (hB : Below w.heap.size w w') : w'.ownsRow base e size v n xs := by
  have hlt := h.lt
  obtain ⟨h1, h2⟩ := h
  refine ⟨h1, ?_⟩
  rcases h2 with h2 | ⟨g, cap, cur, hv, hg', hh, r⟩
  · exact Or.inl h2
  · have hgl := hlt g (by rw [hv]; rfl)
    exact Or.inr ⟨g, cap, cur, hv, hg', (hB.block g hgl.2).trans hh, r⟩

theorem Grew.undrew {w wx : World} {br bc B n g cap : Nat} {v : Value} {xs : List Value} (h : Grew w.drew wx br bc B n g cap v xs) : Grew w wx br bc B n g cap v xs :=
  ⟨h.r, h.c, h.f, h.own, ⟨h.fr.os, h.fr.tape, h.fr.output, h.fr.size, h.fr.block⟩, h.at_, h.rest⟩

theorem Grew.on {w wx wy : World} {br bc B n g cap : Nat} {v : Value} {xs : List Value} (h : Grew w wx br bc B n g cap v xs) (hB : Below wx.heap.size wx wy) : Grew w wy br bc B n g cap v xs := by
  have lc := World.block_lt_of_cell? _ _ h.c
  have hs := h.fr.size
  exact ⟨cell_on hB h.r, cell_on hB h.c, (hB.frozen (p := ⟨bc, 0, none⟩) lc).trans h.f, own_on h.own hB,
    ⟨hB.os.trans h.fr.os, hB.tape.trans h.fr.tape, hB.output.trans h.fr.output, Nat.le_trans h.fr.size hB.size, fun k hk h1 h2 => (hB.block k (by omega)).trans (h.fr.block k hk h1 h2)⟩,
    h.at_, fun o ho => (hB.cell (p := ⟨bc, o, none⟩) lc).trans (h.rest o ho)⟩
theorem Grew.drew {w wx : World} {br bc B n g cap : Nat} {v : Value} {xs : List Value} (h : Grew w wx br bc B n g cap v xs) : Grew w wx.drew br bc B n g cap v xs :=
  h.on ⟨rfl, rfl, rfl, Nat.le_refl _, fun _ _ => rfl⟩

theorem store_same (w : World) (g o : Nat) (cur : Array Value) (t : TypeId) (hb : w.heap[g]? = some (.cells cur t (0, 0))) (hin : o + 17 ≤ cur.size) (hz : (cur.toList.drop o).take 17 = noFwd) :
    (storeCells ⟨g, o, none⟩ noFwd).run Yba.prog w = .ok () w := by
  have hst := run_storeCells_at Yba.prog g o t noFwd 0 cur w hb (by rw [show noFwd.length = 17 from rfl]; omega) noFwd_one
  have hl : noFwd.length = 17 := rfl
  have e : cur.toList.take o ++ noFwd ++ cur.toList.drop (o + 17) = cur.toList := by
    rw [← hz, List.append_assoc, ← List.drop_drop, List.take_append_drop, List.take_append_drop]
  simp only [Nat.add_zero, hl, e, Array.toArray_toList] at hst
  rw [setRow_self w g cur t (0, 0) hb] at hst
  exact hst

theorem Grew.fwdSame {w wx : World} {br bc B n g cap a : Nat} {v : Value} {xs st : List Value} (h : Grew w wx br bc B n g cap v (xs ++ st)) (hx : xs.length = n * 45) (ha : a + 17 ≤ 45) (hz : (st.drop a).take 17 = noFwd) :
    (storeCells ⟨g, n * 45 + a, none⟩ noFwd).run Yba.prog wx = .ok () wx := by
  obtain ⟨_, h2⟩ := h.own
  rcases h2 with ⟨h2, _⟩ | ⟨g', cap', cur, hv, _, hh, hle, _, hsz, htk⟩
  · cases h2
  · cases hv
    have hin : n * 45 + a + 17 ≤ cur.size := by
      have : (n + 1) * 45 ≤ cap * 45 := Nat.mul_le_mul_right _ hle
      omega
    refine store_same wx g (n * 45 + a) cur 85 hh hin ?_
    have e1 : ((cur.toList.take ((n + 1) * 45)).drop (n * 45 + a)).take 17 = (cur.toList.drop (n * 45 + a)).take 17 := by
      rw [List.drop_take, List.take_take, Nat.min_eq_left (by omega)]
    rw [← e1, htk, ← hx, List.drop_append, List.drop_of_length_le (by omega), List.nil_append, Nat.add_sub_cancel_left]
    exact hz

theorem cell_set {w : World} {b o b' : Nat} {u x : Value} (h : w.cell? ⟨b, o, none⟩ = some u) (hne : b ≠ b') : (w.setCell ⟨b', 0, none⟩ x).cell? ⟨b, o, none⟩ = some u :=
  (World.cell?_of_block (a := ⟨b, o, none⟩) (Below.heap_setCell _ _ _ _ hne)).trans h
theorem Env.set {w : World} {br bsc bc b : Nat} {v : Value} (h : Env w br bsc bc v) (h1 : br ≠ b) (h2 : bsc ≠ b) (h3 : bc ≠ b) (x : Value) : Env (w.setCell ⟨b, 0, none⟩ x) br bsc bc v :=
  ⟨cell_set h.r0 h1, cell_set h.r1 h1, cell_set h.lad h3, by rw [World.frozen?_setCell]; exact h.ladF, cell_set h.den h2, cell_set h.fwd h2⟩
theorem One.put {w : World} {b : Nat} {u x : Value} (h : One w b u) : One (w.setCell ⟨b, 0, none⟩ x) b x := ⟨World.cell?_setCell_same _ _ _ h.1, by rw [World.frozen?_setCell]; exact h.2⟩

/-- What interrogateHLR leaves. -/
structure HEnd (w w' : World) (br bsc bc B g cap : Nat) (q : Int) (st : List Value) : Prop where
  env : Env w' br bsc bc (.slice (some ⟨g, 0, none⟩) 3 cap)
  own : w'.ownsRow B 85 45 (.slice (some ⟨g, 0, none⟩) 3 cap) 3 (((sigL 11 12 9).set 5 (.int .u64 q) ++ (sigL 12 11 10).set 5 (.int .u64 q)) ++ st)
  car : Car w w' bc

theorem HEnd.set {w w' : World} {br bsc bc B g cap b : Nat} {q : Int} {st : List Value} (h : HEnd w w' br bsc bc B g cap q st) (h1 : br ≠ b) (h2 : bsc ≠ b) (h3 : bc ≠ b) (h4 : w.heap.size ≤ b) (h5 : b < B) (x : Value) : HEnd w (w'.setCell ⟨b, 0, none⟩ x) br bsc bc B g cap q st :=
  ⟨h.env.set h1 h2 h3 x, ownsRow_setCell_below h.own h5 x, h.car.set h4 x⟩
theorem HEnd.drew {w w' : World} {br bsc bc B g cap : Nat} {q : Int} {st : List Value} (h : HEnd w w' br bsc bc B g cap q st) : HEnd w w'.drew br bsc bc B g cap q st :=
  have hB : Below w'.heap.size w' w'.drew := ⟨rfl, rfl, rfl, Nat.le_refl _, fun _ _ => rfl⟩
  ⟨h.env.on hB, own_on h.own hB, h.car.on hB (World.block_lt_of_cell? _ _ h.env.lad)⟩
theorem One.drew {w : World} {b : Nat} {u : Value} (h : One w b u) : One w.drew b u := h

theorem hend_of_grew {w wq wx : World} {br bsc bc B g cap : Nat} {v : Value} {q : Int} {st : List Value} (hE : Env wq br bsc bc v) (hc : Car w wq bc)
    (hG : Grew wq wx br bc B 2 g cap v (((sigL 11 12 9).set 5 (.int .u64 q) ++ (sigL 12 11 10).set 5 (.int .u64 q)) ++ st)) (n1 : br ≠ bc) (n2 : bsc ≠ bc) (r1 : some br ≠ v.ownBlock) (r2 : some bsc ≠ v.ownBlock) (hv : ∀ j, v.ownBlock = some j → w.heap.size ≤ j) :
    HEnd w wx br bsc bc B g cap q st := ⟨hE.grew hG n1 n2 r1 r2, hG.own, hc.grew hG hv⟩

set_option maxRecDepth 100000 in
set_option maxHeartbeats 4000000 in
theorem hlr_p (br bsc bc : Nat) (p q : Int) (w : World) (hn1 : br ≠ bc) (hn2 : bsc ≠ bc) (hEnv : Env w br bsc bc (.slice none 0 0))
    (m : Nat) (hm : m ≤ 2)
    (H14 : Hid (∀ w : World, Calls Yba.prog 14 #[.agg #[.int .u64 p]] w fun e w' => e = .returned (.agg #[.int .u64 q]) ∧ Below w.heap.size w w'))
    (H16 : Hid (∀ w : World, w.cell? ⟨bsc, 19, none⟩ = some (.slice none 0 0) → Calls Yba.prog 16 #[.pointer (some ⟨bsc, 19, none⟩), .agg #[.int .u64 q]] w fun e w' => e = .returned (.agg #[.int .u64 q]) ∧ Below w.heap.size w w'))
    (H8 : Hid (∀ w : World, Calls Yba.prog 8 #[.agg #[.int .u64 q]] w fun e w' => e = .returned (.int .i64 m) ∧ Below w.heap.size w w'))
    (H20 : Hid (∀ w : World, Calls Yba.prog 20 #[.agg #[.int .u64 q], .pointer none, .pointer none] w fun e w' => e = .returned (.tuple #[.agg #[.int .u64 q], .pointer none]) ∧ Below w.heap.size w w'))
    (H21 : Hid (∀ w : World, Calls Yba.prog 21 #[.agg #[.int .u64 p], .agg #[.int .u64 q]] w fun e w' => e = .returned (.agg #[.int .u64 p]) ∧ Below w.heap.size w w'))
    (H18 : Hid (∀ k : Nat, k < m → ∃ x : Nat, ∀ w : World, Calls Yba.prog 18 #[.agg #[.int .u64 q], .int .i64 k] w fun e w' => e = .returned (.int .u8 (x : Int)) ∧ Below w.heap.size w w')) :
    Calls Yba.prog 5 #[.pointer (some ⟨br, 0, none⟩), .agg #[.int .u64 p]] w fun e w' => e = .returned (.tuple #[.agg #[.int .u64 q], .agg #[.int .u64 p]]) ∧ ∃ B g cap st, w.heap.size ≤ B ∧ HEnd w w' br bsc bc B g cap q st ∧ (m = 0 → st = (sigL 11 1 2).set 8 (.int .u8 57)) ∧ (0 < m → st = (sigL 11 2 0).set 4 (.int .u64 p)) := by
  have lbr : br < w.heap.size := World.block_lt_of_cell? _ _ hEnv.r1
  have lbsc : bsc < w.heap.size := World.block_lt_of_cell? _ _ hEnv.den
  have lbc : bc < w.heap.size := World.block_lt_of_cell? _ _ hEnv.lad
  have H0 : Loc w (((w.alloc (.cells #[.int .u64 p] 26)).alloc (.cells #[.int .u64 0] 73)).alloc (.cells #[.int .u64 0] 26)) [.int .u64 p, .int .u64 0, .int .u64 0] := (((Loc.nil w).push rfl).push (by simp)).push (by simp)
  go_enter Yba.func5, Yba.ntmps5
  go_upto_region 1 with fail
  refine (fun (h : ∀ wx, Loc w wx [.int .u64 p, .int .u64 0, .int .u64 0] → Code.wp Yba.prog _ _ _ wx) => h _ H0) ?_
  clear H0
  intro w0 hL0
  have E0 := hEnv.on hL0.low
  have r00 := E0.r0
  have o3 : One w0 w.heap.size (.int .u64 p) := hL0.cell 0 _ rfl
  have o4 : One w0 (w.heap.size + 1) (.int .u64 0) := hL0.cell 1 _ rfl
  have o5 : One w0 (w.heap.size + 1 + 1) (.int .u64 0) := hL0.cell 2 _ rfl
  have p3 := o3.1
  have l5 := o5.lt
  go_upto_region 3 with (go_at_call 14; refine (H14.out _).mono ?_; rintro e wA ⟨rfl, hBA⟩)
  refine (fun (h : ∀ wx, Below w0.heap.size w0 wx → One wx wA.heap.size (.int .u64 q) → w0.heap.size ≤ wA.heap.size → wx.heap.size = wA.heap.size + 1 → Code.wp Yba.prog _ _ _ wx) => h _ (hBA.alloc hBA.size _) ⟨by simp, by simp⟩ hBA.size (by simp)) ?_
  intro w1 hB1 o7 hsA hs1
  clear hBA
  generalize wA.heap.size = b7 at *
  have E1 := E0.on hB1
  have car := ((Car.refl w bc).on hL0.low lbc).on hB1 (by omega)
  replace o3 := o3.on hB1
  replace o4 := o4.on hB1
  replace o5 := o5.on hB1
  have p7 := o7.1
  have r11 := E1.r1
  clear hL0 hB1 r00 p3 E0
  go_cut [] (fun wx => ∃ g cap, Grew w1 wx br bc w1.heap.size 0 g cap (.slice none 0 0) ((sigL 11 12 9).set 5 (.int .u64 q)))
  case first =>
    have c11 := E1.lad
    have f11 := E1.ladF
    have k1 : br < w1.heap.size := by omega
    have k2 : bc < w1.heap.size := by omega
    have k7 : b7 ≠ bc := by omega
    go_region_with (go_at_call 15; refine (signal_any br bc w1.heap.size 0 (.slice none 0 0) [] 11 12 9 w1.drew (by decide) r11 c11 f11 (World.ownsRow_nil _ _ _ _) k1 k2 (Nat.le_refl _)).mono ?_; rintro e w2 ⟨g, cap, rfl, hG0⟩; have hG := hG0.undrew; have q7 : w2.cell? ⟨b7, 0, none⟩ = some (.int .u64 q) := cell_fr hG.fr p7 k7 (by simp [Value.ownBlock]); have c5 : w2.cell? ⟨g, 5, none⟩ = some (.int .u64 0) := (hG.step rfl (sigL_len _ _ _) (j := 5) rfl).1; have f5 : w2.frozen? ⟨g, 5, none⟩ = false := (hG.step rfl (sigL_len _ _ _) (j := 5) rfl).2)
    all_goals
      go_wp2_with fail
      go_meet
      exact ⟨g, cap, hG.store rfl k1 k2 5 (.int .u64 q)⟩
  case rest =>
    obtain ⟨g, cap, hG⟩ := hcut
    have hg := hG.own.lt g rfl
    have E2 := E1.grew hG hn1 hn2 (by simp [Value.ownBlock]) (by simp [Value.ownBlock])
    replace o3 := o3.fr hG.fr (by omega) (by simp [Value.ownBlock])
    replace o4 := o4.fr hG.fr (by omega) (by simp [Value.ownBlock])
    replace o5 := o5.fr hG.fr (by omega) (by simp [Value.ownBlock])
    replace o7 := o7.fr hG.fr (by omega) (by simp [Value.ownBlock])
    replace car := car.grew hG (fun j hj => by cases hj)
    have q7 := o7.1
    have own2 := hG.own
    have hszc := hG.fr.size
    clear p7 r11 E1 hG
    go_upto_region 6 with (go_at_call 16; refine (H16.out _ E2.den).mono ?_; rintro e w3 ⟨rfl, hB3⟩)
    refine (fun (h : ∀ wx, Below wc.heap.size wc wx → One wx w3.heap.size (.int .u64 q) → wx.cell? ⟨w3.heap.size + 1, 0, none⟩ = some (.pointer none) → wx.cell? ⟨w3.heap.size + 1, 1, none⟩ = some (.pointer none) → wc.heap.size ≤ w3.heap.size → w3.heap.size + 1 < wx.heap.size → Code.wp Yba.prog _ _ _ wx) => h _ ((hB3.alloc hB3.size _).alloc (by have := hB3.size; simp; omega) _) ⟨by go_simp, by go_simp⟩ (by simp) (by simp) hB3.size (by simp)) ?_
    intro w4 hB4 o8 n90 n91 h83 h84
    clear hB3
    generalize w3.heap.size = b8 at *
    have E4 := E2.on hB4
    replace o3 := o3.on hB4
    replace o4 := o4.on hB4
    replace o5 := o5.on hB4
    replace car := car.on hB4 (by omega)
    have own4 := own_on own2 hB4
    clear E2 own2 o7 q7 hB4
    have q8 := o8.1
    have hF4 := E4.fwd
    go_wp2_with (go_at_call 8; refine (H8.out _).mono ?_; rintro e w5 ⟨rfl, hB5⟩)
    go_loopw [36] (fun i wr => ∃ k : Nat, k ≤ m ∧ i = .int .i64 k ∧ Below w4.heap.size w4 wr) (fun i _ => m - (intOf i).toNat)
    case atStart => exact ⟨0, Nat.zero_le _, rfl, hB5⟩
    case round =>
      clear hB5
      obtain ⟨k, hk, rfl, hB6⟩ := hrel
      have r8 : wr.cell? ⟨b8, 0, none⟩ = some (.int .u64 q) := cell_on hB6 q8
      have rF : wr.cell? ⟨bsc, 20, none⟩ = some (.slice none 0 0) := cell_on hB6 hF4
      by_cases hlt : k < m
      · obtain ⟨x, hx⟩ := H18.out k hlt
        go_wp2_with (first | (go_at_call 18; refine (hx _).mono ?_; rintro e w6 ⟨rfl, hB7⟩) | (go_at_call 17; refine (forwarding_any bsc 19 x _ (cell_on hB7 rF)).mono ?_; rintro e w7 ⟨rfl, rfl⟩))
        go_roundw
        case rel => exact ⟨k + 1, by omega, by go_num, hB6.trans (hB7.mono hB6.size)⟩
        case measure => simp [intOf]; omega
      · clear q8 hF4
        have E6 := E4.on hB6
        replace o3 := o3.on hB6
        replace o4 := o4.on hB6
        replace o5 := o5.on hB6
        replace o8 := o8.on hB6
        replace n90 := cell_on hB6 n90
        replace n91 := cell_on hB6 n91
        replace car := car.on hB6 (by omega)
        have own6 := own_on own4 hB6
        have h6 := hB6.size
        clear E4 own4 hB6 rF
        go_wp2_with (go_at_call 15; refine (signal_any br bc w1.heap.size 1 _ _ 12 11 10 wr (by decide) E6.r1 E6.lad E6.ladF own6 (by omega) (by omega) (by omega)).mono ?_; rintro e w7 ⟨g2, cap2, rfl, hG2⟩)
        have hl0 : ((sigL 11 12 9).set 5 (Value.int .u64 q)).length = 1 * 45 := by simp [sigL_len]
        have rown : ∀ b, b < w1.heap.size ∨ g < b → some b ≠ (Value.slice (some ⟨g, 0, none⟩) (0 + 1) cap).ownBlock := fun b hb e => by simp [Value.ownBlock] at e; omega
        have q8 := cell_fr hG2.fr o8.1 (by omega) (rown _ (by omega))
        have m90 := cell_fr hG2.fr n90 (by omega) (rown _ (by omega))
        have m91 := cell_fr hG2.fr n91 (by omega) (rown _ (by omega))
        have h7 := hG2.fr.size
        have hGd := hG2.drew
        go_cut [] (fun wx => ∃ wz, Grew wr wx br bc w1.heap.size 1 g2 cap2 (.slice (some ⟨g, 0, none⟩) (0 + 1) cap) ((sigL 11 12 9).set 5 (.int .u64 q) ++ (sigL 12 11 10).set 5 (.int .u64 q)) ∧ Below w7.heap.size w7 wz ∧ wx = wz.setCell ⟨g2, 50, none⟩ (.int .u64 q))
        case first =>
          have hBd : Below w7.heap.size w7 w7.drew := (Below.refl _ _).drew
          have hn8 : b8 ≠ g2 := by have := hG2.at_; simp [Value.ownBlock] at this; omega
          have hn9 : b8 + 1 ≠ g2 := by have := hG2.at_; simp [Value.ownBlock] at this; omega
          have hS0 : w7.drew.cell? ⟨b8, 0, none⟩ = some (.int .u64 q) ∧ w7.drew.cell? ⟨b8 + 1, 0, none⟩ = some (.pointer none) ∧ w7.drew.cell? ⟨b8 + 1, 1, none⟩ = some (.pointer none) := ⟨q8, m90, m91⟩
          go_region_held3 (fun w' => w'.cell? ⟨b8, 0, none⟩ = some (.int .u64 q) ∧ w'.cell? ⟨b8 + 1, 0, none⟩ = some (.pointer none) ∧ w'.cell? ⟨b8 + 1, 1, none⟩ = some (.pointer none)) (first | assumption | go_keep)
            (first | (go_at_call 19; refine (sigFwd_any _).mono ?_; rintro e w9 ⟨rfl, hB9⟩; have hBw := Below.trans (by assumption : Below w7.heap.size w7 _) (hB9.mono (Below.size (by assumption))); have hG9 := Grew.on (by assumption) hB9; have z8 : w9.cell? ⟨b8, 0, none⟩ = some (.int .u64 q) := cell_on hBw q8; have z90 : w9.cell? ⟨b8 + 1, 0, none⟩ = some (.pointer none) := cell_on hBw m90; have z91 : w9.cell? ⟨b8 + 1, 1, none⟩ = some (.pointer none) := cell_on hBw m91; have c50 : w9.cell? ⟨g2, 50, none⟩ = some (.int .u64 0) := (hG9.step hl0 (sigL_len _ _ _) (j := 5) rfl).1; have f50 : w9.frozen? ⟨g2, 50, none⟩ = false := (hG9.step hl0 (sigL_len _ _ _) (j := 5) rfl).2; have hGs := hG9.store hl0 (by omega) (by omega) 5 (.int .u64 q); have s56 : (storeCells ⟨g2, 56, none⟩ noFwd).run Yba.prog (w9.setCell ⟨g2, 50, none⟩ (.int .u64 q)) = .ok () (w9.setCell ⟨g2, 50, none⟩ (.int .u64 q)) := hGs.fwdSame (a := 11) hl0 (by decide) rfl; have s73 : (storeCells ⟨g2, 73, none⟩ noFwd).run Yba.prog (w9.setCell ⟨g2, 50, none⟩ (.int .u64 q)) = .ok () (w9.setCell ⟨g2, 50, none⟩ (.int .u64 q)) := hGs.fwdSame (a := 28) hl0 (by decide) rfl; have hS9 : w9.cell? ⟨b8, 0, none⟩ = some (.int .u64 q) ∧ w9.cell? ⟨b8 + 1, 0, none⟩ = some (.pointer none) ∧ w9.cell? ⟨b8 + 1, 1, none⟩ = some (.pointer none) := ⟨z8, z90, z91⟩; have hSs : (w9.setCell ⟨g2, 50, none⟩ (.int .u64 q)).cell? ⟨b8, 0, none⟩ = some (.int .u64 q) ∧ (w9.setCell ⟨g2, 50, none⟩ (.int .u64 q)).cell? ⟨b8 + 1, 0, none⟩ = some (.pointer none) ∧ (w9.setCell ⟨g2, 50, none⟩ (.int .u64 q)).cell? ⟨b8 + 1, 1, none⟩ = some (.pointer none) := ⟨by rw [World.cell?_setCell_other _ _ _ _ (by simp)]; exact z8, by rw [World.cell?_setCell_other _ _ _ _ (by simp)]; exact z90, by rw [World.cell?_setCell_other _ _ _ _ (by simp)]; exact z91⟩))
          all_goals
            go_wp2_with fail
            go_meet
            exact ⟨_, hGs, hBw, rfl⟩
        case rest =>
          obtain ⟨wz, hG8, hBz, rfl⟩ := hcut
          have hg2 := hG8.own.lt g2 rfl
          have hs8 := hG8.fr.size
          have hat := hG8.at_
          have E8 := E6.grew hG8 hn1 hn2 (rown _ (by omega)) (rown _ (by omega))
          replace o3 := o3.fr hG8.fr (by omega) (rown _ (by omega))
          replace o4 := o4.fr hG8.fr (by omega) (rown _ (by omega))
          replace o5 := o5.fr hG8.fr (by omega) (rown _ (by omega))
          replace o8 := o8.fr hG8.fr (by omega) (rown _ (by omega))
          replace n90 := cell_fr hG8.fr n90 (by omega) (rown _ (by omega))
          replace n91 := cell_fr hG8.fr n91 (by omega) (rown _ (by omega))
          replace car := car.grew hG8 (fun j hj => by simp [Value.ownBlock] at hj; omega)
          have own8 := hG8.own
          generalize wz.setCell ⟨g2, 50, none⟩ (.int .u64 q) = w8 at *
          have c8 := o8.1
          clear hG8 hBz hG2 hGd q8 m90 m91 E6 own6 hlt
          have rown2 : ∀ b, b < w1.heap.size ∨ w8.heap.size ≤ b ∨ b = b8 → some b ≠ (Value.slice (some ⟨g2, 0, none⟩) (1 + 1) cap2).ownBlock := fun b hb e => by simp [Value.ownBlock] at e hat; omega
          have hl01 : ((sigL 11 12 9).set 5 (Value.int .u64 q) ++ (sigL 12 11 10).set 5 (Value.int .u64 q)).length = (1 + 1) * 45 := by simp [sigL_len]
          rcases Nat.eq_zero_or_pos m with hm0 | hm0
          · have hmz : ((m : Int) == 0) = true := by simp [hm0]
            go_upto_region 17 with (first | (go_at_call 8; refine (H8.out _).mono ?_; rintro e w10 ⟨rfl, hB10⟩; have E10 := E8.on hB10; have car10 := car.on hB10 (by omega); have own10 := own_on own8 hB10; have h10 := hB10.size) | (go_at_call 15; refine (signal_any br bc w1.heap.size (1 + 1) _ _ 11 1 2 w10 (by decide) E10.r1 E10.lad E10.ladF own10 (by omega) (by omega) (by omega)).mono ?_; rintro e w11 ⟨g3, cap3, rfl, hG3⟩; have c98 : w11.cell? ⟨g3, 98, none⟩ = some (.int .u8 0) := (hG3.step hl01 (sigL_len _ _ _) (j := 8) rfl).1; have f98 : w11.frozen? ⟨g3, 98, none⟩ = false := (hG3.step hl01 (sigL_len _ _ _) (j := 8) rfl).2))
            have hGs := hG3.store hl01 (by omega) (by omega) 8 (.int .u8 57)
            refine (fun (h : ∀ wx, HEnd w wx br bsc bc w1.heap.size g3 cap3 q ((sigL 11 1 2).set 8 (.int .u8 57)) → One wx w.heap.size (.int .u64 p) → One wx (w.heap.size + 1) (.int .u64 0) → One wx (w.heap.size + 1 + 1) (.int .u64 0) → One wx b8 (.int .u64 q) → Code.wp Yba.prog _ _ _ wx) => h _ (hend_of_grew E10 car10 hGs hn1 hn2 (rown2 _ (by omega)) (rown2 _ (by omega)) (fun j hj => by simp [Value.ownBlock] at hj; omega)) ((o3.on hB10).fr hGs.fr (by omega) (rown2 _ (by omega))) ((o4.on hB10).fr hGs.fr (by omega) (rown2 _ (by omega))) ((o5.on hB10).fr hGs.fr (by omega) (rown2 _ (by omega))) ((o8.on hB10).fr hGs.fr (by omega) (rown2 _ (by omega)))) ?_
            intro w13 hH t3 t4 t5 t8
            have y3 := t3.1
            have y4 := t4.1
            have z4 := t4.2
            have y5 := t5.1
            have z5 := t5.2
            have y8 := t8.1
            have j1 : b8 ≠ w.heap.size + 1 := by omega
            have j2 : b8 ≠ w.heap.size + 1 + 1 := by omega
            go_cut [] (fun wx => HEnd w wx br bsc bc w1.heap.size g3 cap3 q ((sigL 11 1 2).set 8 (.int .u8 57)) ∧ One wx (w.heap.size + 1) (.int .u64 q) ∧ One wx (w.heap.size + 1 + 1) (.int .u64 p))
            case first =>
              go_region
              all_goals
                go_wp2_with fail
                go_meet
                first
                  | exact ⟨((hH.drew.set (by omega) (by omega) (by omega) (by omega) (by omega) _).set (by omega) (by omega) (by omega) (by omega) (by omega) _), (t4.drew.put.set (by omega)), ((t5.drew.set (by omega)).put)⟩
                  | exact ⟨((hH.drew.set (by omega) (by omega) (by omega) (by omega) (by omega) _).set (by omega) (by omega) (by omega) (by omega) (by omega) _), ((t4.drew.set (by omega)).put), (t5.drew.put.set (by omega))⟩
            case rest =>
              obtain ⟨hH2, s4, s5⟩ := hcut
              have x4 := s4.1
              have x5 := s5.1
              go_wp2_with fail
              refine bodyPost_ret (v := .tuple #[.agg #[.int .u64 q], .agg #[.int .u64 p]]) (by simp [results, Yba.results5, go_sem, x4, x5]) rfl ⟨rfl, w1.heap.size, g3, cap3, _, by omega, hH2, fun _ => rfl, fun h => by omega⟩
          · have hmz : ((m : Int) == 0) = false := by simp; omega
            go_upto_region 20 with (first | (go_at_call 8; refine (H8.out _).mono ?_; rintro e w10 ⟨rfl, hB10⟩; have d8 := cell_on hB10 c8; have d90 := cell_on hB10 n90; have d91 := cell_on hB10 n91) | (go_at_call 20; refine (H20.out _).mono ?_; rintro e w11 ⟨rfl, hB11⟩; have d3 := cell_on hB11 (cell_on hB10 o3.1); have h11 : w.heap.size < w11.heap.size := World.block_lt_of_cell? _ _ d3) | (go_at_call 21; refine (H21.out _).mono ?_; rintro e w12 ⟨rfl, hB12⟩; have d3' := (o3.on (hB10.trans (hB11.mono hB10.size))).on ((Below.refl _ _).alloc (Nat.le_refl _) (.cells #[.int .u64 q] 73)) |>.on hB12; have dc3 := d3'.1; have df3 := d3'.2))
            have hBt : Below w8.heap.size w8 w12 := ((hB10.trans (hB11.mono hB10.size)).alloc (by have := hB10.size; have := hB11.size; omega) (.cells #[.int .u64 q] 73)).trans (hB12.mono (by have := hB10.size; have := hB11.size; simp; omega))
            have o13 : One w12 w11.heap.size (.int .u64 q) := One.on (w := w11.alloc (.cells #[.int .u64 q] 73)) ⟨by simp, by simp⟩ hB12
            have hb13 : w8.heap.size ≤ w11.heap.size := by have := hB10.size; have := hB11.size; omega
            have E12 := (E8.on hBt).set (b := w.heap.size) (by omega) (by omega) (by omega) (.int .u64 p)
            have car12 := (car.on hBt (by omega)).set (b := w.heap.size) (Nat.le_refl _) (.int .u64 p)
            have own12 := ownsRow_setCell_below (own_on own8 hBt) (a := ⟨w.heap.size, 0, none⟩) (show w.heap.size < w1.heap.size by omega) (.int .u64 p)
            replace o3 := (o3.on hBt).put (x := .int .u64 p)
            replace o4 := (o4.on hBt).set (b' := w.heap.size) (x := .int .u64 p) (by omega)
            replace o5 := (o5.on hBt).set (b' := w.heap.size) (x := .int .u64 p) (by omega)
            replace o13 := o13.set (b' := w.heap.size) (x := .int .u64 p) (by omega)
            have h12 := hBt.size
            have hsz12 : (w12.setCell ⟨w.heap.size, 0, none⟩ (.int .u64 p)).heap.size = w12.heap.size := by simp [World.setCell]
            clear hBt d3' dc3 df3 d3 d8 d90 d91 hB10 hB11 hB12 n90 n91 o8 c8 E8 own8
            generalize w11.heap.size = b13 at *
            generalize w12.setCell ⟨w.heap.size, 0, none⟩ (.int .u64 p) = w14 at *
            have l13 := o13.lt
            go_upto_region 26 with (go_at_call 15; refine (signal_any br bc w1.heap.size (1 + 1) _ _ 11 2 0 w14 (by decide) E12.r1 E12.lad E12.ladF own12 (by omega) (by omega) (by omega)).mono ?_; rintro e w15 ⟨g3, cap3, rfl, hG3⟩)
            have k3 : w15.cell? ⟨w.heap.size, 0, none⟩ = some (.int .u64 p) := cell_fr hG3.fr o3.1 (by omega) (rown2 _ (by omega))
            have hGd3 := hG3.drew
            have hg3 := hG3.own.lt g3 rfl
            have hn3 : w.heap.size ≠ g3 := by omega
            go_cut [] (fun wx => Grew w14 wx br bc w1.heap.size 2 g3 cap3 (.slice (some ⟨g2, 0, none⟩) (1 + 1) cap2) (((sigL 11 12 9).set 5 (.int .u64 q) ++ (sigL 12 11 10).set 5 (.int .u64 q)) ++ (sigL 11 2 0).set 4 (.int .u64 p)))
            case first =>
              have hBd : Below w15.heap.size w15 w15.drew := (Below.refl _ _).drew
              have hS0 : w15.drew.cell? ⟨w.heap.size, 0, none⟩ = some (.int .u64 p) := k3
              go_region_held3 (fun w' => w'.cell? ⟨w.heap.size, 0, none⟩ = some (.int .u64 p)) (first | assumption | go_keep)
                (first | (go_at_call 19; refine (sigFwd_any _).mono ?_; rintro e w9 ⟨rfl, hB9⟩; have hBw := Below.trans (by assumption : Below w15.heap.size w15 _) (hB9.mono (Below.size (by assumption))); have hG9 := Grew.on (by assumption : Grew w14 _ br bc w1.heap.size (1 + 1) g3 cap3 _ _) hB9; have z3 : w9.cell? ⟨w.heap.size, 0, none⟩ = some (.int .u64 p) := cell_on hBw k3; have c94 : w9.cell? ⟨g3, 94, none⟩ = some (.int .u64 0) := (hG9.step hl01 (sigL_len _ _ _) (j := 4) rfl).1; have f94 : w9.frozen? ⟨g3, 94, none⟩ = false := (hG9.step hl01 (sigL_len _ _ _) (j := 4) rfl).2; have hGs := hG9.store hl01 (by omega) (by omega) 4 (.int .u64 p); have s101 : (storeCells ⟨g3, 101, none⟩ noFwd).run Yba.prog (w9.setCell ⟨g3, 94, none⟩ (.int .u64 p)) = .ok () (w9.setCell ⟨g3, 94, none⟩ (.int .u64 p)) := hGs.fwdSame (a := 11) hl01 (by decide) rfl; have hSs : (w9.setCell ⟨g3, 94, none⟩ (.int .u64 p)).cell? ⟨w.heap.size, 0, none⟩ = some (.int .u64 p) := by rw [World.cell?_setCell_other _ _ _ _ (by simp)]; exact z3))
              all_goals
                go_wp2_with fail
                go_meet
                exact hGs
            case rest =>
            have hGs := hcut
            go_upto_region 27 with fail
            refine (fun (h : ∀ wx, HEnd w wx br bsc bc w1.heap.size g3 cap3 q ((sigL 11 2 0).set 4 (.int .u64 p)) → One wx w.heap.size (.int .u64 p) → One wx (w.heap.size + 1) (.int .u64 0) → One wx (w.heap.size + 1 + 1) (.int .u64 0) → One wx b13 (.int .u64 q) → Code.wp Yba.prog _ _ _ wx) => h _ (hend_of_grew E12 car12 hGs hn1 hn2 (rown2 _ (by omega)) (rown2 _ (by omega)) (fun j hj => by simp [Value.ownBlock] at hj; omega)) (o3.fr hGs.fr (by omega) (rown2 _ (by omega))) (o4.fr hGs.fr (by omega) (rown2 _ (by omega))) (o5.fr hGs.fr (by omega) (rown2 _ (by omega))) (o13.fr hGs.fr (by omega) (rown2 _ (by omega)))) ?_
            intro w13 hH t3 t4 t5 t8
            have y3 := t3.1
            have y4 := t4.1
            have z4 := t4.2
            have y5 := t5.1
            have z5 := t5.2
            have y8 := t8.1
            have j1 : b13 ≠ w.heap.size + 1 := by omega
            have j2 : b13 ≠ w.heap.size + 1 + 1 := by omega
            go_cut [] (fun wx => HEnd w wx br bsc bc w1.heap.size g3 cap3 q ((sigL 11 2 0).set 4 (.int .u64 p)) ∧ One wx (w.heap.size + 1) (.int .u64 q) ∧ One wx (w.heap.size + 1 + 1) (.int .u64 p))
            case first =>
              go_region
              all_goals
                go_wp2_with fail
                go_meet
                first
                  | exact ⟨((hH.drew.set (by omega) (by omega) (by omega) (by omega) (by omega) _).set (by omega) (by omega) (by omega) (by omega) (by omega) _), (t4.drew.put.set (by omega)), ((t5.drew.set (by omega)).put)⟩
                  | exact ⟨((hH.drew.set (by omega) (by omega) (by omega) (by omega) (by omega) _).set (by omega) (by omega) (by omega) (by omega) (by omega) _), ((t4.drew.set (by omega)).put), (t5.drew.put.set (by omega))⟩
            case rest =>
              obtain ⟨hH2, s4, s5⟩ := hcut
              have x4 := s4.1
              have x5 := s5.1
              go_wp2_with fail
              refine bodyPost_ret (v := .tuple #[.agg #[.int .u64 q], .agg #[.int .u64 p]]) (by simp [results, Yba.results5, go_sem, x4, x5]) rfl ⟨rfl, w1.heap.size, g3, cap3, _, by omega, hH2, fun h => by omega, fun _ => rfl⟩

theorem five_all (cs : List Nat) : ∀ c ∈ cs, hasB (svcsOf cs) (svc c) = true := by
  have key : ∀ (cs acc : List Nat), (∀ v, hasB acc v = true → hasB (cs.foldl stepS acc) v = true) ∧ ∀ c ∈ cs, hasB (cs.foldl stepS acc) (svc c) = true := by
    intro cs
    induction cs with
    | nil => exact fun acc => ⟨fun v h => h, fun c hc => by cases hc⟩
    | cons c0 cs ih =>
      intro acc
      have hstep : ∀ v, hasB acc v = true → hasB (stepS acc c0) v = true := by
        intro v hv
        unfold stepS
        split
        · exact hv
        · unfold hasB at *; simp at *; exact Or.inl hv
      have hself : hasB (stepS acc c0) (svc c0) = true := by
        unfold stepS
        split
        · assumption
        · unfold hasB; simp
      refine ⟨fun v hv => (ih (stepS acc c0)).1 v (hstep v hv), fun c hc => ?_⟩
      rcases List.mem_cons.1 hc with rfl | hc
      · exact (ih (stepS acc c)).1 _ hself
      · exact (ih (stepS acc c0)).2 c hc
  exact (key cs []).2

/-- interrogateHLR at a list of codecs. -/
theorem hlr_any (br bsc bc : Nat) (cs : List Nat) (hl : Fits cs) (w : World) (hn1 : br ≠ bc) (hn2 : bsc ≠ bc) (hEnv : Env w br bsc bc (.slice none 0 0)) :
    Calls Yba.prog 5 #[.pointer (some ⟨br, 0, none⟩), L cs] w fun e w' => e = .returned (.tuple #[L (svcsOf cs), L cs]) ∧ ∃ B g cap st, w.heap.size ≤ B ∧ HEnd w w' br bsc bc B g cap (pk (svcsOf cs) : Nat) st ∧ ((svcsOf cs).length = 0 → st = (sigL 11 1 2).set 8 (.int .u8 57)) ∧ (0 < (svcsOf cs).length → st = (sigL 11 2 0).set 4 (.int .u64 (pk cs : Nat))) := by
  obtain ⟨hf, h2⟩ := (svcsOf_five cs).fits
  refine hlr_p br bsc bc (pk cs : Nat) (pk (svcsOf cs) : Nat) w hn1 hn2 hEnv (svcsOf cs).length h2 (fun w => listServices_any cs hl w) (fun w hc => allowed_any bsc 19 _ hf w hc) (fun w => ?_) (fun w => forward_any _ w) (fun w => codecsOf_any cs _ hl hf (five_all cs) w) (fun k hk => ⟨(svcsOf cs)[k], fun w => ?_⟩)
  · exact (lenS _ hf w).mono fun e w' h => ⟨h.1, by rw [h.2]; exact (Below.refl _ _).alloc (Nat.le_refl _) _⟩
  · exact (atS _ hf k hk w).mono fun e w' h => ⟨h.1, by rw [h.2]; exact (Below.refl _ _).alloc (Nat.le_refl _) _⟩

end Go.Proofs.Ybulkcbu
