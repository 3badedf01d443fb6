/-
  'table.unquote' BY ITS CONTRACT: over the bytes xs it gives the bytes ys, 'unqL xs = some ys'.
-/
import Derived.Test.YbulkcbgRows
import Derived.Test.YbulkcbgPlain
import Derived.WalkKit
import Derived.WalkSpells
import Derived.Laws.BytesArg
namespace Go.Proofs.Ybulkcbg
open Go.RowKit

theorem info5 : (Yba.prog.info? 5).map (fun i => (i.zero, i.size, i.bytes)) = some (some (.int .u8 0), 1, 1) := by kernel_rfl

theorem drop_next {xs : List Int} {k : Nat} {d : Int} {r : List Int} (h : xs.drop (k + 1) = d :: r) : k + 1 < xs.length ∧ xs.getD (k + 1) 0 = d ∧ xs.drop (k + 2) = r := by
  have h1 : k + 1 < xs.length := by
    rcases Nat.lt_or_ge (k + 1) xs.length with h1 | h1
    · exact h1
    · rw [List.drop_eq_nil_of_le h1] at h; cases h
  rw [List.drop_eq_getElem_cons h1] at h
  injection h with ha hb
  exact ⟨h1, by simp [List.getD, List.getElem?_eq_getElem h1, ha], hb⟩

theorem drop_end {xs : List Int} {k : Nat} (h : xs.drop (k + 1) = []) : xs.length ≤ k + 1 := by
  have := congrArg List.length h; simp at this; omega

/-- What a round leaves: one byte more is owned. -/
theorem rel_step {w wr w2 : World} {n : Nat} {acc : List Int} {c : Int} {o : Obj}
    (hgrow : (wr.alloc o).grownBy w2 (some w.heap.size)) (hB : Below w.heap.size w wr)
    (hown : w2.ownsRow w.heap.size 5 1 (.slice (some ⟨w.heap.size, 0, none⟩) (acc.length + 1) n) (acc.length + 1) (acc.map (Value.int .u8) ++ [.int .u8 c])) :
    w2.ownsRow w.heap.size 5 1 (.slice (some ⟨w.heap.size, 0, none⟩) (acc ++ [c]).length n) (acc ++ [c]).length ((acc ++ [c]).map (Value.int .u8)) ∧ Below w.heap.size w w2 := by
  have hs := hB.size
  refine ⟨by simpa using hown, (hB.alloc hs o).grown hgrow (by simp; omega) (fun k hk => by cases hk; exact Nat.le_refl _)⟩

set_option maxHeartbeats 1000000 in
theorem unquote_any (b off cap : Nat) (xs ys : List Int) (w : World) (hm : xs.length ≤ 4096) (hu : unqL xs = some ys)
    (hcell : ∀ j, j < xs.length → w.cell? ⟨b, off + j, none⟩ = some (.int .u8 (xs.getD j 0))) (hb : b < w.heap.size) :
    Calls Yba.prog 6 #[.slice (some ⟨b, off, none⟩) xs.length cap] w fun e w' => e = .returned (.string (strOfNums ys)) ∧ Below w.heap.size w w' := by
  obtain ⟨i0, hi, hz0, hz1, hz2⟩ := info_parts info5
  obtain ⟨n, hn⟩ : ∃ n, n = xs.length := ⟨_, rfl⟩
  rw [← hn] at hm hcell ⊢
  have HN : Hid (n = xs.length) := hn
  have HU : Hid (unqL xs = some ys) := hu
  clear hn hu
  go_enter Yba.func6, Yba.ntmps6
  go_wp2_with (at_make; refine wpList_make_own _ rfl _ _ 24 rfl w.heap.size 5 i0 (.int .u8 0) 1 Yba.underlying24 hi hz0 hz1 .i64 .i64 _ n rfl rfl rfl (by rw [hz2]; omega) (by unfold maxLen; omega) (Nat.le_refl _) ?_; intro w1 hown1 hgrow1)
  go_loopw [3, 4] (fun v i wr => ∃ (k : Nat) (acc rest : List Int), k ≤ n ∧ i = .int .i64 k ∧ acc.length ≤ k ∧ v = .slice (some ⟨w.heap.size, 0, none⟩) acc.length n ∧ Hid (unqL (xs.drop k) = some rest ∧ acc ++ rest = ys) ∧
      wr.ownsRow w.heap.size 5 1 (.slice (some ⟨w.heap.size, 0, none⟩) acc.length n) acc.length (acc.map (Value.int .u8)) ∧ Below w.heap.size w wr) (fun _ i _ => n - (intOf i).toNat)
  case atStart => exact ⟨0, [], ys, Nat.zero_le _, rfl, Nat.le_refl _, rfl, ⟨HU.out, rfl⟩, hown1, (Below.refl _ _).grown hgrow1 (Nat.le_refl _) (fun k hk => by cases hk)⟩
  case round =>
    obtain ⟨k, acc, rest, hk, rfl, hak, rfl, HR, hown, hB⟩ := hrel
    have hsz := hB.size
    by_cases hlt : k < n
    · have hkx : k < xs.length := by rw [← HN.out]; exact hlt
      have hc1 : wr.cell? ⟨b, off + k, none⟩ = some (.int .u8 (xs.getD k 0)) := (hB.cell (p := ⟨b, off + k, none⟩) hb).trans (hcell k hlt)
      have HR2 := HR.out.1
      rw [drop_at xs k hkx] at HR2
      have hgd : xs.getD k 0 = xs[k] := by simp [List.getD, List.getElem?_eq_getElem hkx]
      rw [hgd] at hc1
      generalize xs[k] = c at HR2 hc1
      clear hgd
      rcases unqL_cons HR2 with ⟨rfl, d, r, s, ht, hs, hr⟩ | ⟨rfl, r, s, ht, hs, hr⟩ | ⟨rfl, ht, hr⟩ | ⟨rfl, d, r, s, ht, hd, hs, hr⟩ | ⟨hc34, hc13, s, hs, hr⟩
      · -- a doubled quote
        obtain ⟨hk1, hd1, hr1⟩ := drop_next ht
        rw [← HN.out] at hk1
        have hc2 : wr.cell? ⟨b, off + (k + 1), none⟩ = some (.int .u8 d) := by rw [← hd1]; exact (hB.cell (p := ⟨b, off + (k + 1), none⟩) hb).trans (hcell (k + 1) hk1)
        have HX : Hid (unqL (xs.drop (k + 2)) = some s ∧ (acc ++ [d]) ++ s = ys) := ⟨by rw [hr1]; exact hs, by rw [← HR.out.2, hr]; simp⟩
        clear HR2 ht hs hr hd1 hr1
        go_wp2_with (at_builtin; refine wpList_append_fits _ rfl (.tmp 43) (.tmp 48) 24 rfl w.heap.size 5 i0 1 Yba.underlying24 hi hz1 w.heap.size acc.length n _ rfl (hown.alloc _) ⟨wr.heap.size, 0, none⟩ 1 1 [.int .u8 d] rfl rfl (cell_one_new _ _ _) (ints_oneCell .u8 [d]) (by omega) ?_; intro w2 hown2 hgrow2)
        have R := rel_step hgrow2 hB hown2
        go_roundw
        case rel => exact ⟨k + 2, acc ++ [d], _, by omega, by go_num, by simp; omega, by simp, HX, R.1, R.2⟩
        case measure => simp [intOf]; omega
      · -- CR LF
        obtain ⟨hk1, hd1, hr1⟩ := drop_next ht
        rw [← HN.out] at hk1
        have hc2 : wr.cell? ⟨b, off + (k + 1), none⟩ = some (.int .u8 10) := by rw [← hd1]; exact (hB.cell (p := ⟨b, off + (k + 1), none⟩) hb).trans (hcell (k + 1) hk1)
        have HX : Hid (unqL (xs.drop (k + 2)) = some s ∧ (acc ++ [10]) ++ s = ys) := ⟨by rw [hr1]; exact hs, by rw [← HR.out.2, hr]; simp⟩
        clear HR2 ht hs hr hd1 hr1
        go_wp2_with (at_builtin; refine wpList_append_fits _ rfl (.tmp 43) (.tmp 48) 24 rfl w.heap.size 5 i0 1 Yba.underlying24 hi hz1 w.heap.size acc.length n _ rfl (hown.alloc _) ⟨wr.heap.size, 0, none⟩ 1 1 [.int .u8 10] rfl rfl (cell_one_new _ _ _) (ints_oneCell .u8 [10]) (by omega) ?_; intro w2 hown2 hgrow2)
        have R := rel_step hgrow2 hB hown2
        go_roundw
        case rel => exact ⟨k + 2, acc ++ [10], _, by omega, by go_num, by simp; omega, by simp, HX, R.1, R.2⟩
        case measure => simp [intOf]; omega
      · -- a CR at the end
        have hk1 := drop_end ht
        rw [← HN.out] at hk1
        have HX : Hid (unqL (xs.drop (k + 1)) = some [] ∧ (acc ++ [13]) ++ [] = ys) := ⟨by rw [ht]; rfl, by rw [← HR.out.2, hr]; simp⟩
        clear HR2 ht hr
        go_wp2_with (at_builtin; refine wpList_append_fits _ rfl (.tmp 43) (.tmp 48) 24 rfl w.heap.size 5 i0 1 Yba.underlying24 hi hz1 w.heap.size acc.length n _ rfl (hown.alloc _) ⟨wr.heap.size, 0, none⟩ 1 1 [.int .u8 13] rfl rfl (cell_one_new _ _ _) (ints_oneCell .u8 [13]) (by omega) ?_; intro w2 hown2 hgrow2)
        have R := rel_step hgrow2 hB hown2
        go_roundw
        case rel => exact ⟨k + 1, acc ++ [13], _, by omega, by go_num, by simp; omega, by simp, HX, R.1, R.2⟩
        case measure => simp [intOf]; omega
      · -- a lone CR
        obtain ⟨hk1, hd1, hr1⟩ := drop_next ht
        rw [← HN.out] at hk1
        have hd' : (d == 10) = false := beq_eq_false_iff_ne.2 hd
        have hc2 : wr.cell? ⟨b, off + (k + 1), none⟩ = some (.int .u8 d) := by rw [← hd1]; exact (hB.cell (p := ⟨b, off + (k + 1), none⟩) hb).trans (hcell (k + 1) hk1)
        have HX : Hid (unqL (xs.drop (k + 1)) = some s ∧ (acc ++ [13]) ++ s = ys) := ⟨by rw [ht]; exact hs, by rw [← HR.out.2, hr]; simp⟩
        clear HR2 ht hs hr hd1 hr1 hd
        go_wp2_with (at_builtin; refine wpList_append_fits _ rfl (.tmp 43) (.tmp 48) 24 rfl w.heap.size 5 i0 1 Yba.underlying24 hi hz1 w.heap.size acc.length n _ rfl (hown.alloc _) ⟨wr.heap.size, 0, none⟩ 1 1 [.int .u8 13] rfl rfl (cell_one_new _ _ _) (ints_oneCell .u8 [13]) (by omega) ?_; intro w2 hown2 hgrow2)
        have R := rel_step hgrow2 hB hown2
        go_roundw
        case rel => exact ⟨k + 1, acc ++ [13], _, by omega, by go_num, by simp; omega, by simp, HX, R.1, R.2⟩
        case measure => simp [intOf]; omega
      · -- any other byte
        have h34 : (c == 34) = false := beq_eq_false_iff_ne.2 hc34
        have h13 : (c == 13) = false := beq_eq_false_iff_ne.2 hc13
        have HX : Hid (unqL (xs.drop (k + 1)) = some s ∧ (acc ++ [c]) ++ s = ys) := ⟨hs, by rw [← HR.out.2, hr]; simp⟩
        clear HR2 hs hr hc34 hc13
        go_wp2_with (at_builtin; refine wpList_append_fits _ rfl (.tmp 43) (.tmp 48) 24 rfl w.heap.size 5 i0 1 Yba.underlying24 hi hz1 w.heap.size acc.length n _ rfl (hown.alloc _) ⟨wr.heap.size, 0, none⟩ 1 1 [.int .u8 c] rfl rfl (cell_one_new _ _ _) (ints_oneCell .u8 [c]) (by omega) ?_; intro w2 hown2 hgrow2)
        have R := rel_step hgrow2 hB hown2
        go_roundw
        case rel => exact ⟨k + 1, acc ++ [c], _, by omega, by go_num, by simp; omega, by simp, HX, R.1, R.2⟩
        case measure => simp [intOf]; omega
    · have hkn : k = n := by omega
      have hys : acc = ys := by
        have h1 := HR.out.1
        rw [List.drop_eq_nil_of_le (by rw [← HN.out]; omega)] at h1
        have h2 : rest = [] := by simpa [unqL] using h1.symm
        rw [← HR.out.2, h2, List.append_nil]
      subst hys
      have hcv := run_convert_bytes_arg (P := Yba.prog) wr 24 5 Yba.underlying24 Yba.underlying5 w.heap.size 0 acc.length n acc rfl (fun i hi => by
        rw [Nat.zero_add, hown.cellAt i (by omega)]
        simp [List.getElem?_eq_getElem hi, List.getD]) 9 Yba.underlying9
      go_wp2
      go_ret
      exact ⟨rfl, hB⟩

end Go.Proofs.Ybulkcbg
