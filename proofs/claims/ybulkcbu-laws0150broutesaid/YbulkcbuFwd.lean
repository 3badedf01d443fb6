/-
  signalForwardingOf BY ITS CONTRACT: of nil it gives no forwarding.
-/
import Derived.Test.YbulkcbuWide
namespace Go.Proofs.Ybulkcbu
open Go.RowKit

set_option maxHeartbeats 800000 in
theorem sigFwd_any (w : World) : Calls Yba.prog 19 #[.pointer none] w fun e w' => e = .returned (.agg noFwd.toArray) ∧ Below w.heap.size w w' := by
  go_enter Yba.func19, Yba.ntmps19
  go_wp2_with (first
    | (refine wpList_alloc_wide rfl 81 rfl noFwd 17 zero81 ?_; intro w1 hb1 hl1 hs1)
    | (refine wpList_load_row rfl 81 (.tmp 3) rfl _ rfl 81 noFwd.toArray (0, 0) _ (by assumption) Yba.underlying81 rfl (by kernel_rfl) ?_)
    | (refine wpList_store_wide rfl 81 (.tmp 2) (.tmp 20) rfl w.heap.size noFwd.toArray 81 noFwd (by exact (hl1.block _ (by assumption)).trans (by assumption)) rfl rfl rfl size81 noFwd_one ?_; intro w3 hb3 hg3))
  refine bodyPost_ret (v := .agg noFwd.toArray) (results_cell_row (d := _) Yba.results19 _ _ w.heap.size 81 _ (0, 0) rfl hb3 Yba.underlying81 rfl (by kernel_rfl)) rfl ⟨rfl, ?_⟩
  have hlow := ((by assumption : Below w.heap.size w _)).trans (hl1.mono (by omega))
  exact hlow.grown hg3 hlow.size (fun k hk => by cases hk; exact Nat.le_refl _)

end Go.Proofs.Ybulkcbu
