/-
  zzs0150bcodecs BY ITS CONTRACT.
-/
import Derived.Test.YbulkcbuSub
import Derived.Deep.AppendLies
namespace Go.Proofs.Ybulkcbu
open Go.RowKit

/-- Codecs (services) as cells. -/
def u8s (cs : List Nat) : List Value := cs.map fun (c : Nat) => .int .u8 (c : Int)
theorem u8s_len (cs : List Nat) : (u8s cs).length = cs.length := by simp [u8s]
theorem u8s_snoc (cs : List Nat) (c : Nat) : u8s (cs ++ [c]) = u8s cs ++ [.int .u8 (c : Int)] := by simp [u8s]
theorem u8s_at (cs : List Nat) (k : Nat) (h : k < cs.length) : (u8s cs)[k]? = some (.int .u8 ((cs[k] : Nat) : Int)) := by simp [u8s, h]

theorem info68 : (Yba.prog.info? 68).map (fun i => (i.zero, i.size, i.bytes)) = some (some (.int .u8 0), 1, 1) := by kernel_rfl

theorem own_grown {w w2 : World} {base : Nat} {e : TypeId} {size : Nat} {v : Value} {n b : Nat} {xs : List Value} (h : w.ownsRow base e size v n xs) (hg : w.grownBy w2 (some b)) (hb : b < base) : w2.ownsRow base e size v n xs := by
  have hlt := h.lt
  obtain ⟨h1, h2⟩ := h
  refine ⟨h1, ?_⟩
  rcases h2 with h2 | ⟨g, cap, cur, hv, hg', hh, r⟩
  · exact Or.inl h2
  · have hgl := hlt g (by rw [hv]; rfl)
    exact Or.inr ⟨g, cap, cur, hv, hg', (hg.block g hgl.2 (by intro e; cases e; omega)).trans hh, r⟩

theorem Loc.grow {w wr w2 : World} {cs : List Value} {row : Option Nat} (h : Loc w wr cs) (hg : wr.grownBy w2 row) (hr : ∀ k, row = some k → w.heap.size + cs.length ≤ k) : Loc w w2 cs := by
  have hs := h.sz
  refine ⟨fun i v hi => ?_, Nat.le_trans h.sz hg.size, h.low.grown hg (by omega) (fun k hk => by have := hr k hk; omega)⟩
  have hlt : i < cs.length := (List.getElem?_eq_some_iff.1 hi).1
  have := h.cell i v hi
  have hbk : w2.heap[w.heap.size + i]? = wr.heap[w.heap.size + i]? := hg.block _ (by omega) (fun e => by have := hr _ e.symm; omega)
  exact ⟨(World.cell?_of_block (a := ⟨w.heap.size + i, 0, none⟩) hbk).trans this.1, (World.frozen?_of_block (a := ⟨w.heap.size + i, 0, none⟩) hbk).trans this.2⟩

/-- What the bytes that came in are told of. -/
def Bytes (w : World) (ao : Option Addr) (raw : List Nat) : Prop :=
  ∀ j (hj : j < raw.length), raw[j] < 256 ∧ ∃ b off, ao = some ⟨b, off, none⟩ ∧ b < w.heap.size ∧ w.cell? ⟨b, off + j, none⟩ = some (.int .u8 ((raw[j] : Nat) : Int))

structure Got (w wr : World) (v : Value) (cs : List Nat) : Prop where
  fits : Fits cs
  loc : Loc w wr [.int .u64 0, .int .u64 (pk cs : Nat)]
  own : wr.ownsRow (w.heap.size + 2) 68 1 v cs.length (u8s cs)

/-- The row's value, in one form for nil and any other. -/
theorem row_form {w : World} {base : Nat} {e : TypeId} {v : Value} {cs : List Nat} (h : w.ownsRow base e 1 v cs.length (u8s cs)) :
    ∃ ao c, v = .slice ao cs.length c ∧ ∀ j (hj : j < cs.length), ∃ g, ao = some ⟨g, 0, none⟩ ∧ w.cell? ⟨g, j, none⟩ = some (.int .u8 ((cs[j] : Nat) : Int)) := by
  rcases Nat.eq_zero_or_pos cs.length with h0 | h0
  · obtain ⟨_, h2⟩ := h
    rcases h2 with ⟨hv, _⟩ | ⟨g, cap, cur, hv, _⟩
    · exact ⟨none, 0, by rw [hv, h0], fun j hj => by omega⟩
    · exact ⟨some ⟨g, 0, none⟩, cap, hv, fun j hj => by omega⟩
  · obtain ⟨g, cap, hv, _⟩ := h.form h0
    subst hv
    exact ⟨some ⟨g, 0, none⟩, cap, rfl, fun j hj => ⟨g, rfl, by rw [h.cellAt j (by omega), u8s_at cs j hj]⟩⟩

theorem cell_u8 (c : Nat) : ∀ u ∈ [Value.int .u8 (c : Int)], u.oneCell' = true := by intro u hu; simp at hu; subst hu; rfl

theorem Got.done {w wr : World} {v : Value} {cs : List Nat} (h : Got w wr v cs) (u : Value) :
    (wr.setCell ⟨w.heap.size, 0, none⟩ u).drew.ownsRow (w.heap.size + 2) 68 1 v cs.length (u8s cs) ∧ Below w.heap.size w (wr.setCell ⟨w.heap.size, 0, none⟩ u).drew :=
  ⟨ownsRow_setCell_below h.own (show w.heap.size < w.heap.size + 2 by omega) u, (h.loc.low.setCell (Nat.le_refl _) u).drew⟩

theorem own_block_le {w : World} {base : Nat} {e : TypeId} {size : Nat} {v : Value} {n : Nat} {xs : List Value} (h : w.ownsRow base e size v n xs) : ∀ k, v.ownBlock = some k → base ≤ k := fun k hk => (h.lt k hk).1

theorem Got.grown {w wr w2 w4 : World} {v : Value} {cs : List Nat} {g cap c : Nat} {X : Obj} (h : Got w wr v cs) (hn : cs.length < 15) (hc : c < 16)
    (hown : w2.ownsRow (w.heap.size + 2) 68 1 (.slice (some ⟨g, 0, none⟩) (cs.length + 1) cap) (cs.length + 1) (u8s cs ++ [.int .u8 (c : Int)])) (hgr : (wr.alloc X).grownBy w2 v.ownBlock)
    (hg4 : w2.grownBy w4 (some (w.heap.size + 1))) (hc4 : w4.cell? ⟨w.heap.size + 1, 0, none⟩ = some (.int .u64 (pk (cs ++ [c]) : Nat))) (hf4 : w4.frozen? ⟨w.heap.size + 1, 0, none⟩ = false) :
    Got w w4 (.slice (some ⟨g, 0, none⟩) (cs.length + 1) cap) (cs ++ [c]) := by
  have hl2 := (h.loc.on ((Below.refl _ _).alloc (Nat.le_refl _) X)).grow hgr (fun k hk => by have := own_block_le h.own k hk; simpa using this)
  refine ⟨h.fits.snoc (by omega) hc, hl2.set (j := 1) (by simp) hg4 hc4 hf4, ?_⟩
  have := own_grown hown hg4 (by omega)
  rw [u8s_snoc, show (cs ++ [c]).length = cs.length + 1 from by simp]
  exact this

theorem Got.mid {w wr w2 : World} {v : Value} {cs : List Nat} {X : Obj} (h : Got w wr v cs) (hgr : (wr.alloc X).grownBy w2 v.ownBlock) :
    w2.cell? ⟨w.heap.size + 1, 0, none⟩ = some (.int .u64 (pk cs : Nat)) ∧ w2.frozen? ⟨w.heap.size + 1, 0, none⟩ = false :=
  ((h.loc.on ((Below.refl _ _).alloc (Nat.le_refl _) X)).grow hgr (fun k hk => by have := own_block_le h.own k hk; simpa using this)).cell 1 _ rfl

set_option maxRecDepth 100000 in
set_option maxHeartbeats 2000000 in
theorem codecs_any (ao : Option Addr) (cap : Nat) (raw : List Nat) (w : World) (hn : raw.length ≤ 1024) (hcame : Bytes w ao raw) :
    Calls Yba.prog 4 #[.slice ao raw.length cap] w fun e w' => ∃ cs v, e = .returned (.tuple #[v, L cs]) ∧ Fits cs ∧ w'.ownsRow (w.heap.size + 2) 68 1 v cs.length (u8s cs) ∧ Below w.heap.size w w' := by
  obtain ⟨i0, hi, hz0, hz1, hz2⟩ := info_parts info68
  obtain ⟨n, hn'⟩ : ∃ n, n = raw.length := ⟨_, rfl⟩
  have HN : Hid (n = raw.length) := hn'
  have HC : Hid (Bytes w ao raw) := hcame
  rw [← hn'] at hn ⊢
  clear hn' hcame
  go_enter Yba.func4, Yba.ntmps4
  go_wp2_with fail
  have H0 : Loc w ((w.alloc (.cells #[.int .u64 0] 26)).alloc (.cells #[.int .u64 0] 26)) [.int .u64 0, .int .u64 0] := ((Loc.nil w).push rfl).push (by simp)
  go_loopw [4, 14] (fun v i wr => ∃ (k : Nat) (cs : List Nat), k ≤ n ∧ i = .int .i64 k ∧ Got w wr v cs) (fun _ i _ => n - (intOf i).toNat)
  case atStart => exact ⟨0, [], Nat.zero_le _, rfl, ⟨Fits.nil, H0, World.ownsRow_nil _ _ _ _⟩⟩
  case round =>
    clear H0
    obtain ⟨k, cs, hk, rfl, hG⟩ := hrel
    by_cases hlt : k < n
    · have hkl : k < raw.length := by rw [← HN.out]; exact hlt
      obtain ⟨h256, b, off, rfl, hbl, e0⟩ := HC.out k hkl
      generalize raw[k] = x at h256 e0
      have d0 : wr.cell? ⟨b, off + k, none⟩ = some (.int .u8 (x : Int)) := (hG.loc.low.cell (p := ⟨b, off + k, none⟩) hbl).trans e0
      clear e0
      obtain ⟨c, hc, hc16⟩ : ∃ c : Nat, ((x : Int) % 13) = (c : Int) ∧ c < 16 := ⟨x % 13, by simp, by omega⟩
      obtain ⟨aw, cw, rfl, hrow⟩ := row_form hG.own
      have HG : Hid (Got w wr (.slice aw cs.length cw) cs) := hG
      have HR : Hid (∀ j (hj : j < cs.length), ∃ g, aw = some ⟨g, 0, none⟩ ∧ wr.cell? ⟨g, j, none⟩ = some (.int .u8 ((cs[j] : Nat) : Int))) := hrow
      have hsz := hG.loc.sz
      have c3 : wr.cell? ⟨w.heap.size, 0, none⟩ = some (.int .u64 0) := (hG.loc.cell 0 _ rfl).1
      have f3 : wr.frozen? ⟨w.heap.size, 0, none⟩ = false := (hG.loc.cell 0 _ rfl).2
      have c5 : wr.cell? ⟨w.heap.size + 1, 0, none⟩ = some (.int .u64 (pk cs : Nat)) := (hG.loc.cell 1 _ rfl).1
      clear hG hrow
      by_cases h15 : cs.length < 15
      · go_wp2_with fail
        go_loopw [9, 25] (fun d j wq => ∃ (m : Nat) (bd : Bool), m ≤ cs.length ∧ j = .int .i64 m ∧ d = .bool bd ∧ wq = wr) (fun _ j _ => cs.length - (intOf j).toNat)
        case atStart => exact ⟨0, false, Nat.zero_le _, rfl, rfl, rfl⟩
        case round =>
          obtain ⟨m, bd, hm, rfl, rfl, rfl⟩ := hrel
          by_cases hml : m < cs.length
          · obtain ⟨g, rfl, hcell⟩ := HR.out m hml
            generalize cs[m] = y at hcell
            go_wp2_with fail
            all_goals
              go_roundw
              case rel => exact ⟨m + 1, _, by omega, by go_num, rfl, trivial⟩
              case measure => simp [intOf]; omega
          · cases bd
            · go_wp2_with (first | (at_builtin; refine wpList_append_lies _ rfl (.tmp 34) (.tmp 36) 23 rfl (w.heap.size + 2) 68 i0 (.int .u8 0) 1 1 Yba.underlying23 hi hz0 hz1 hz2 rfl (by decide) (.slice aw cs.length cw) cs.length (u8s cs) rfl (HG.out.own.alloc _) ⟨wr.heap.size, 0, none⟩ 1 1 [.int .u8 (c : Int)] rfl rfl (cell_one_new _ _ _) (cell_u8 c) (by decide) (by unfold maxLen; omega) (by omega) (by simp at hsz ⊢; omega) _ rfl ?_; intro g2 cap2 w2 hown2 hgrow2 hat2 hlt2) | (go_at_call 13; refine (addC (w.heap.size + 1) c cs HG.out.fits (by omega) hc16 _ (HG.out.mid hgrow2).1 (HG.out.mid hgrow2).2).mono ?_; rintro e w4 ⟨rfl, hc4, hf4, hg4⟩))
              go_roundw
              case rel => exact ⟨k + 1, cs ++ [c], by omega, by go_num, HG.out.grown h15 hc16 hown2 hgrow2 hg4 hc4 hf4⟩
              case measure => simp [intOf]; omega
            · go_wp2_with fail
              go_roundw
              case rel => exact ⟨k + 1, cs, by omega, by go_num, HG.out⟩
              case measure => simp [intOf]; omega
      · go_wp2_with fail
        go_region
        all_goals
          go_wp2
          refine bodyPost_ret (v := .tuple #[.slice aw cs.length cw, L cs]) (by simp [results, Yba.results4, go_sem, c3]) rfl ⟨cs, _, rfl, HG.out.fits, ?_⟩
          exact HG.out.done _
    · obtain ⟨aw, cw, rfl, _⟩ := row_form hG.own
      have c3 : wr.cell? ⟨w.heap.size, 0, none⟩ = some (.int .u64 0) := (hG.loc.cell 0 _ rfl).1
      have f3 : wr.frozen? ⟨w.heap.size, 0, none⟩ = false := (hG.loc.cell 0 _ rfl).2
      have c5 : wr.cell? ⟨w.heap.size + 1, 0, none⟩ = some (.int .u64 (pk cs : Nat)) := (hG.loc.cell 1 _ rfl).1
      go_wp2_with fail
      go_region
      all_goals
        go_wp2
        refine bodyPost_ret (v := .tuple #[.slice aw cs.length cw, L cs]) (by simp [results, Yba.results4, go_sem, c3]) rfl ⟨cs, _, rfl, hG.fits, ?_⟩
        exact hG.done _

end Go.Proofs.Ybulkcbu
