/-
  (*subscription).allowed BY ITS CONTRACT.
-/
import Derived.Test.YbulkcbuSub
namespace Go.Proofs.Ybulkcbu
open Go.RowKit

theorem H0_two (p : Int) (w : World) : Loc w ((w.alloc (.cells #[.int .u64 p] 73)).alloc (.cells #[.int .u64 0] 73)) [.int .u64 p, .int .u64 0] := ((Loc.nil w).push rfl).push (by simp)

set_option maxHeartbeats 1000000 in
theorem allowed_p (b o : Nat) (p : Int) (w : World) (hc : w.cell? ⟨b, o, none⟩ = some (.slice none 0 0))
    (HW : Hid (∀ w : World, Calls Yba.prog 27 #[.agg #[.int .u64 p], .slice none 0 0] w fun e w' => e = .returned (.agg #[.int .u64 p]) ∧ Below w.heap.size w w')) :
    Calls Yba.prog 16 #[.pointer (some ⟨b, o, none⟩), .agg #[.int .u64 p]] w fun e w' => e = .returned (.agg #[.int .u64 p]) ∧ Below w.heap.size w w' := by
  have hb : b < w.heap.size := World.block_lt_of_cell? _ _ hc
  have hb1 : b < w.heap.size + 1 := by omega
  have H0 := (H0_two p w).drew
  go_enter Yba.func16, Yba.ntmps16
  go_wp2_with fail
  go_region_with (go_at_call 27; refine (HW.out _).mono ?_; rintro e w3 ⟨rfl, hb3⟩; have hL := H0.on hb3; have c1 : w3.cell? ⟨w.heap.size + 1, 0, none⟩ = some (.int .u64 0) := (hL.cell 1 _ rfl).1; have f1 : w3.frozen? ⟨w.heap.size + 1, 0, none⟩ = false := (hL.cell 1 _ rfl).2)
  all_goals
    go_wp2
    refine bodyPost_ret (v := .agg #[.int .u64 p]) (by simp [results, Yba.results16, go_sem, c1]) rfl ⟨rfl, ?_⟩
    exact hL.low.setCell (by simp) _

theorem allowed_any (b o : Nat) (l : List Nat) (hl : Fits l) (w : World) (hc : w.cell? ⟨b, o, none⟩ = some (.slice none 0 0)) :
    Calls Yba.prog 16 #[.pointer (some ⟨b, o, none⟩), L l] w fun e w' => e = .returned (L l) ∧ Below w.heap.size w w' :=
  allowed_p b o (pk l : Nat) w hc (fun w => without_any l hl w)

end Go.Proofs.Ybulkcbu
