/-
  codecsOf BY ITS CONTRACT.
-/
import Derived.Test.YbulkcbuSub
namespace Go.Proofs.Ybulkcbu
open Go.RowKit

set_option maxHeartbeats 2000000 in
theorem codecsOf_any (cs ss : List Nat) (hl : Fits cs) (hs : Fits ss) (hall : ∀ c ∈ cs, hasB ss (svc c) = true) (w : World) :
    Calls Yba.prog 21 #[L cs, L ss] w fun e w' => e = .returned (L cs) ∧ Below w.heap.size w w' := by
  have hl15 := hl.2
  have HA : Hid (∀ c ∈ cs, hasB ss (svc c) = true) := hall
  clear hall
  go_enter Yba.func21, Yba.ntmps21
  go_wp2_with (go_at_call 23; refine (lenC cs hl _).mono ?_; rintro e w1 ⟨rfl, rfl⟩)
  have H0 : Loc w ((((w.alloc (.cells #[.int .u64 (pk cs : Nat)] 26)).alloc (.cells #[.int .u64 (pk ss : Nat)] 73)).alloc (.cells #[.int .u64 0] 26)).alloc (.cells #[.int .u64 0] 26)) [.int .u64 (pk cs : Nat), .int .u64 (pk ss : Nat), .int .u64 0, .int .u64 0] := ((((Loc.nil w).push rfl).push (by simp)).push (by simp)).push (by simp)
  go_loopw [10] (fun i wr => ∃ k : Nat, k ≤ cs.length ∧ i = .int .i64 k ∧ Loc w wr [.int .u64 (pk cs : Nat), .int .u64 (pk ss : Nat), .int .u64 0, .int .u64 (pk (cs.take k) : Nat)]) (fun i _ => cs.length - (intOf i).toNat)
  case atStart => exact ⟨0, Nat.zero_le _, rfl, by rw [pk_zero]; exact H0.on ((Below.refl _ _).alloc (Nat.le_refl _) _)⟩
  case round =>
    clear H0
    obtain ⟨k, hk, rfl, hL⟩ := hrel
    have c0 : wr.cell? ⟨w.heap.size, 0, none⟩ = some (.int .u64 (pk cs : Nat)) := (hL.cell 0 _ rfl).1
    have c1 : wr.cell? ⟨w.heap.size + 1, 0, none⟩ = some (.int .u64 (pk ss : Nat)) := (hL.cell 1 _ rfl).1
    have c2 : wr.cell? ⟨w.heap.size + 1 + 1, 0, none⟩ = some (.int .u64 0) := (hL.cell 2 _ rfl).1
    have f2 : wr.frozen? ⟨w.heap.size + 1 + 1, 0, none⟩ = false := (hL.cell 2 _ rfl).2
    have c3 : wr.cell? ⟨w.heap.size + 1 + 1 + 1, 0, none⟩ = some (.int .u64 (pk (cs.take k) : Nat)) := (hL.cell 3 _ rfl).1
    have hsz : w.heap.size + 4 ≤ wr.heap.size := hL.sz
    have s0 : w.heap.size < wr.heap.size := by omega
    have s1 : w.heap.size + 1 < wr.heap.size := by omega
    have s2 : w.heap.size + 1 + 1 < wr.heap.size := by omega
    have s3 : w.heap.size + 1 + 1 + 1 < wr.heap.size := by omega
    by_cases hlt : k < cs.length
    · have hsn : Hid (cs.take (k + 1) = cs.take k ++ [cs[k]]) := take_next cs k hlt
      have hft := hl.take k
      have hlen14 : (cs.take k).length ≤ 14 := by rw [List.length_take]; omega
      have hs12 : cs[k] < 16 := hl.1 _ (List.getElem_mem _)
      have hh : hasB ss (svc cs[k]) = true := HA.out _ (List.getElem_mem _)
      generalize cs.take k = s at *
      go_wp2_with (go_at_call 24; refine (atC cs hl k hlt _).mono ?_; rintro e w2 ⟨rfl, rfl⟩)
      have hL2 := (hL.on ((Below.refl _ _).alloc (Nat.le_refl _) (.cells #[.int .u64 (pk cs : Nat)] 26))).drew
      go_region_with (first | (go_at_call 25; refine (svc_any _ _).mono ?_; rintro e w2 ⟨rfl, rfl⟩) | (go_at_call 11; refine (has_any ss hs (svc cs[k]) _).mono ?_; rintro e w3 ⟨rfl, hb3⟩; have hL3 := hL2.on hb3))
      all_goals
        go_wp2_with (go_at_call 13; refine (addC (w.heap.size + 1 + 1 + 1) cs[k] s hft hlen14 hs12 _ (hL3.cell 3 _ rfl).1 (hL3.cell 3 _ rfl).2).mono ?_; rintro e w4 ⟨rfl, hc4, hf4, hg4⟩)
        have hL4 := hL3.set (j := 3) (by simp) hg4 hc4 hf4
        go_roundw
        case rel => exact ⟨k + 1, by omega, by go_num, by rw [hsn.out]; exact hL4⟩
        case measure => simp [intOf]; omega
    · have hall : Hid (cs.take k = cs) := List.take_of_length_le (by omega)
      rw [hall.out] at c3 hL
      go_wp2
      refine bodyPost_ret (v := L cs) (by simp [results, Yba.results21, go_sem, (hL.cell 2 _ rfl).1]) rfl ⟨rfl, ?_⟩
      exact hL.low.setCell (show w.heap.size ≤ w.heap.size + 1 + 1 by omega) _

end Go.Proofs.Ybulkcbu
