/-
  zzs0150beqs and zzs0150beqc BY THEIR CONTRACTS: a packed list against a row of the same values.
-/
import Derived.Test.YbulkcbuCodecs
namespace Go.Proofs.Ybulkcbu
open Go.RowKit

/-- The row's cells, as the callers know them. -/
def RowAt (w : World) (ao : Option Addr) (cs : List Nat) : Prop :=
  ∀ j (hj : j < cs.length), ∃ g, ao = some ⟨g, 0, none⟩ ∧ w.cell? ⟨g, j, none⟩ = some (.int .u8 ((cs[j] : Nat) : Int))

theorem RowAt.on {w w' : World} {ao : Option Addr} {cs : List Nat} (h : RowAt w ao cs) (hB : Below w.heap.size w w') : RowAt w' ao cs := by
  intro j hj
  obtain ⟨g, e, hc⟩ := h j hj
  exact ⟨g, e, (hB.cell (p := ⟨g, j, none⟩) (World.block_lt_of_cell? _ _ hc)).trans hc⟩

set_option maxHeartbeats 1000000 in
theorem eqs_any (l : List Nat) (hl : Fits l) (ao : Option Addr) (c : Nat) (w : World) (hrow : RowAt w ao l) :
    Calls Yba.prog 7 #[L l, .slice ao l.length c] w fun e w' => e = .returned (.bool true) ∧ Below w.heap.size w w' := by
  have hl15 := hl.2
  have HR : Hid (RowAt w ao l) := hrow
  clear hrow
  go_enter Yba.func7, Yba.ntmps7
  go_wp2_with (go_at_call 8; refine (lenS l hl _).mono ?_; rintro e w1 ⟨rfl, rfl⟩)
  go_loopw [13] (fun i wr => ∃ k : Nat, k ≤ l.length ∧ i = .int .i64 k ∧ wr.cell? ⟨w.heap.size, 0, none⟩ = some (.int .u64 (pk l : Nat)) ∧ w.heap.size < wr.heap.size ∧ Below w.heap.size w wr) (fun i _ => l.length - (intOf i).toNat)
  case atStart => exact ⟨0, Nat.zero_le _, rfl, by go_simp, by simp; omega, ((Below.refl _ _).alloc (Nat.le_refl _) _).alloc (by simp) _⟩
  case round =>
    obtain ⟨k, hk, rfl, hc, hsz, hB⟩ := hrel
    by_cases hlt : k < l.length
    · obtain ⟨g, rfl, hcell⟩ := (HR.out.on hB) k hlt
      have hgl : g < wr.heap.size := World.block_lt_of_cell? _ _ hcell
      go_wp2_with fail
      go_region_with (go_at_call 18; refine (atS l hl k hlt _).mono ?_; rintro e w2 ⟨rfl, rfl⟩)
      all_goals
        go_wp2_with fail
        go_roundw
        case rel => exact ⟨k + 1, by omega, by go_num, by go_simp, by simp; omega, (hB.drew.alloc (by simp; omega) _)⟩
        case measure => simp [intOf]; omega
    · go_wp2
      go_ret
      exact ⟨rfl, hB⟩

set_option maxHeartbeats 1000000 in
theorem eqc_any (l : List Nat) (hl : Fits l) (ao : Option Addr) (c : Nat) (w : World) (hrow : RowAt w ao l) :
    Calls Yba.prog 12 #[L l, .slice ao l.length c] w fun e w' => e = .returned (.bool true) ∧ Below w.heap.size w w' := by
  have hl15 := hl.2
  have HR : Hid (RowAt w ao l) := hrow
  clear hrow
  go_enter Yba.func12, Yba.ntmps12
  go_wp2_with (go_at_call 23; refine (lenC l hl _).mono ?_; rintro e w1 ⟨rfl, rfl⟩)
  go_loopw [13] (fun i wr => ∃ k : Nat, k ≤ l.length ∧ i = .int .i64 k ∧ wr.cell? ⟨w.heap.size, 0, none⟩ = some (.int .u64 (pk l : Nat)) ∧ w.heap.size < wr.heap.size ∧ Below w.heap.size w wr) (fun i _ => l.length - (intOf i).toNat)
  case atStart => exact ⟨0, Nat.zero_le _, rfl, by go_simp, by simp; omega, ((Below.refl _ _).alloc (Nat.le_refl _) _).alloc (by simp) _⟩
  case round =>
    obtain ⟨k, hk, rfl, hc, hsz, hB⟩ := hrel
    by_cases hlt : k < l.length
    · obtain ⟨g, rfl, hcell⟩ := (HR.out.on hB) k hlt
      have hgl : g < wr.heap.size := World.block_lt_of_cell? _ _ hcell
      go_wp2_with fail
      go_region_with (go_at_call 24; refine (atC l hl k hlt _).mono ?_; rintro e w2 ⟨rfl, rfl⟩)
      all_goals
        go_wp2_with fail
        go_roundw
        case rel => exact ⟨k + 1, by omega, by go_num, by go_simp, by simp; omega, (hB.drew.alloc (by simp; omega) _)⟩
        case measure => simp [intOf]; omega
    · go_wp2
      go_ret
      exact ⟨rfl, hB⟩

end Go.Proofs.Ybulkcbu
