/-
  has[Service], without, allowed, forwarding, signalForwardingOf, forward, codecsOf: BY THEIR CONTRACTS (no service is denied, none is forwarded).
-/
import Derived.Test.YbulkcbuSvc
namespace Go.Proofs.Ybulkcbu
open Go.RowKit

theorem hasNil_any (v : Nat) (w : World) : Calls Yba.prog 28 #[.slice none 0 0, .int .u8 (v : Int)] w fun e w' => e = .returned (.bool false) ∧ w' = w := by
  go_enter Yba.func28, Yba.ntmps28
  go_wp2
  refine wp_loop_rounds 1 ?_
  rw [rounds_succ]
  go_wp2
  go_ret
  exact ⟨rfl, rfl⟩

theorem take_next (l : List Nat) (k : Nat) (h : k < l.length) : l.take (k + 1) = l.take k ++ [l[k]] := List.take_succ_eq_append_getElem h
theorem pk_zero (l : List Nat) : pk (l.take 0) = 0 := by simp [pk, body]
theorem Fits.take {l : List Nat} (h : Fits l) (k : Nat) : Fits (l.take k) := ⟨fun c hc => h.1 c (List.mem_of_mem_take hc), by have := h.2; rw [List.length_take]; omega⟩

set_option maxHeartbeats 1000000 in
theorem without_any (l : List Nat) (hl : Fits l) (w : World) :
    Calls Yba.prog 27 #[L l, .slice none 0 0] w fun e w' => e = .returned (L l) ∧ Below w.heap.size w w' := by
  have hl15 := hl.2
  go_enter Yba.func27, Yba.ntmps27
  go_wp2_with (go_at_call 8; refine (lenS l hl _).mono ?_; rintro e w1 ⟨rfl, rfl⟩)
  have H0 : Loc w (((w.alloc (.cells #[.int .u64 (pk l : Nat)] 73)).alloc (.cells #[.int .u64 0] 73)).alloc (.cells #[.int .u64 0] 73)) [.int .u64 (pk l : Nat), .int .u64 0, .int .u64 0] := (((Loc.nil w).push rfl).push (by simp)).push (by simp)
  go_loopw [10] (fun i wr => ∃ k : Nat, k ≤ l.length ∧ i = .int .i64 k ∧ Loc w wr [.int .u64 (pk l : Nat), .int .u64 0, .int .u64 (pk (l.take k) : Nat)]) (fun i _ => l.length - (intOf i).toNat)
  case atStart => exact ⟨0, Nat.zero_le _, rfl, by rw [pk_zero]; exact H0.on ((Below.refl _ _).alloc (Nat.le_refl _) _)⟩
  case round =>
    clear H0
    obtain ⟨k, hk, rfl, hL⟩ := hrel
    have c0 : wr.cell? ⟨w.heap.size, 0, none⟩ = some (.int .u64 (pk l : Nat)) := (hL.cell 0 _ rfl).1
    have c1 : wr.cell? ⟨w.heap.size + 1, 0, none⟩ = some (.int .u64 0) := (hL.cell 1 _ rfl).1
    have f1 : wr.frozen? ⟨w.heap.size + 1, 0, none⟩ = false := (hL.cell 1 _ rfl).2
    have c2 : wr.cell? ⟨w.heap.size + 1 + 1, 0, none⟩ = some (.int .u64 (pk (l.take k) : Nat)) := (hL.cell 2 _ rfl).1
    have hsz : w.heap.size + 3 ≤ wr.heap.size := hL.sz
    have s0 : w.heap.size < wr.heap.size := by omega
    have s1 : w.heap.size + 1 < wr.heap.size := by omega
    have s2 : w.heap.size + 1 + 1 < wr.heap.size := by omega
    by_cases hlt : k < l.length
    · have hsn : Hid (l.take (k + 1) = l.take k ++ [l[k]]) := take_next l k hlt
      have hft := hl.take k
      have hlen14 : (l.take k).length ≤ 14 := by rw [List.length_take]; omega
      have hs12 : l[k] < 16 := hl.1 _ (List.getElem_mem _)
      generalize l.take k = s at *
      go_wp2_with (first | (go_at_call 18; refine (atS l hl k hlt _).mono ?_; rintro e w2 ⟨rfl, rfl⟩; have hL3 := hL.on ((Below.refl _ _).alloc (Nat.le_refl _) (.cells #[.int .u64 (pk l : Nat)] 73))) | (go_at_call 28; refine (hasNil_any _ _).mono ?_; rintro e w2 ⟨rfl, rfl⟩) | (go_at_call 22; refine (addS (w.heap.size + 1 + 1) l[k] s hft hlen14 hs12 _ (hL3.cell 2 _ rfl).1 (hL3.cell 2 _ rfl).2).mono ?_; rintro e w4 ⟨rfl, hc4, hf4, hg4⟩))
      have hL4 := hL3.set (j := 2) (by simp) hg4 hc4 hf4
      go_roundw
      case rel => exact ⟨k + 1, by omega, by go_num, by rw [hsn.out]; exact hL4⟩
      case measure => simp [intOf]; omega
    · have hall : Hid (l.take k = l) := List.take_of_length_le (by omega)
      rw [hall.out] at c2 hL
      go_wp2
      refine bodyPost_ret (v := L l) (by simp [results, Yba.results27, go_sem, c1]) rfl ⟨rfl, ?_⟩
      exact hL.low.setCell (by simp) _

set_option maxHeartbeats 800000 in
theorem forwarding_any (b o v : Nat) (w : World) (hc : w.cell? ⟨b, o + 1, none⟩ = some (.slice none 0 0)) :
    Calls Yba.prog 17 #[.pointer (some ⟨b, o, none⟩), .int .u8 (v : Int)] w fun e w' => e = .returned (.pointer none) ∧ w' = w := by
  go_enter Yba.func17, Yba.ntmps17
  go_wp2
  refine wp_loop_rounds 1 ?_
  rw [rounds_succ]
  go_wp2
  go_ret
  exact ⟨rfl, rfl⟩

set_option maxHeartbeats 800000 in
theorem forward_any (l : List Nat) (w : World) : Calls Yba.prog 20 #[L l, .pointer none, .pointer none] w fun e w' => e = .returned (.tuple #[L l, .pointer none]) ∧ Below w.heap.size w w' := by
  go_enter Yba.func20, Yba.ntmps20
  go_wp2
  refine bodyPost_ret (v := .tuple #[L l, .pointer none]) (by simp [results, Yba.results20, go_sem]) rfl ⟨rfl, ?_⟩
  exact ((Below.refl _ _).alloc (Nat.le_refl _) _).alloc (by simp) _

end Go.Proofs.Ybulkcbu
