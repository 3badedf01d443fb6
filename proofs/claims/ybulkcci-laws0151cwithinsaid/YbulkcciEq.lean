/-
  'zzs0151ceq' BY ITS CONTRACT: two rows that hold the same steps are equal.
-/
import Derived.Test.YbulkcciPath
import Derived.BigQuiet
namespace Go.Proofs.Ybulkcci
open Go.RowKit

/-- The steps lie in block g from its head on. -/
def Holds3 (w : World) (g : Nat) (l : List Stp) : Prop :=
  ∀ j (hj : j < l.length), w.cell? ⟨g, j * 3, none⟩ = some (.int .i64 l[j].k) ∧ w.cell? ⟨g, j * 3 + 1, none⟩ = some (.string l[j].s) ∧ w.cell? ⟨g, j * 3 + 2, none⟩ = some (.int .i64 l[j].i)

theorem flat_at : ∀ (l : List Stp) (j m : Nat) (hj : j < l.length) (_ : m < 3), (flat l)[j * 3 + m]? = l[j].cells[m]?
  | p :: l, 0, m, _, hm => by
    have : m < p.cells.length := by simpa [Stp.cells] using hm
    simp only [flat, List.flatMap_cons, Nat.zero_mul, Nat.zero_add, List.getElem_cons_zero]
    rw [List.getElem?_append_left this]
  | p :: l, j + 1, m, hj, hm => by
    have ih := flat_at l j m (by simpa using hj) hm
    have hl : p.cells.length = 3 := rfl
    simp only [flat, List.flatMap_cons, List.getElem_cons_succ]
    rw [List.getElem?_append_right (by omega), hl, show (j + 1) * 3 + m - 3 = j * 3 + m from by omega]
    exact ih

theorem holds_own {w : World} {base g n cap : Nat} {l : List Stp} (h : w.ownsRow base 29 3 (.slice (some ⟨g, 0, none⟩) n cap) n (flat l)) (hn : n = l.length) : Holds3 w g l := by
  intro j hj
  subst hn
  refine ⟨?_, ?_, ?_⟩
  · rw [show j * 3 = j * 3 + 0 from rfl, h.cellAt (j * 3 + 0) (by omega), flat_at l j 0 hj (by omega)]; rfl
  · rw [h.cellAt (j * 3 + 1) (by omega), flat_at l j 1 hj (by omega)]; rfl
  · rw [h.cellAt (j * 3 + 2) (by omega), flat_at l j 2 hj (by omega)]; rfl

set_option maxHeartbeats 1000000 in
theorem eq_any (ga gb ca cb : Nat) (l : List Stp) (w : World) (hn : l.length ≤ 1025) (hA : Holds3 w ga l) (hB : Holds3 w gb l) :
    Calls Yba.prog 8 #[.slice (some ⟨ga, 0, none⟩) l.length ca, .slice (some ⟨gb, 0, none⟩) l.length cb] w fun e w' => e = .returned (.bool true) ∧ Below w.heap.size w w' := by
  obtain ⟨n, hn'⟩ : ∃ n, n = l.length := ⟨_, rfl⟩
  have HN : Hid (n = l.length) := hn'
  have HA : Hid (Holds3 w ga l) := hA
  have HB : Hid (Holds3 w gb l) := hB
  rw [← hn'] at hn ⊢
  clear hn' hA hB
  go_enter Yba.func8, Yba.ntmps8
  go_wp2
  go_loopw [13] (fun i wr => ∃ k nq : Nat, k ≤ n ∧ i = .int .i64 k ∧ wr = w.drewN nq) (fun i _ => n - (intOf i).toNat)
  case atStart => exact ⟨0, 0, Nat.zero_le _, rfl, rfl⟩
  case round =>
    obtain ⟨k, nq, hk, rfl, rfl⟩ := hrel
    by_cases hlt : k < n
    · have hkl : k < l.length := by rw [← HN.out]; exact hlt
      obtain ⟨a0, a1, a2⟩ := HA.out k hkl
      obtain ⟨b0, b1, b2⟩ := HB.out k hkl
      generalize l[k] = p at a0 a1 a2 b0 b1 b2
      have hi1 : (k : Int) < (n : Int) := by omega
      go_wp2
      go_quiet (fail)
      go_wp2
      go_roundw
      case rel => exact ⟨k + 1, _, by omega, by go_num, rfl⟩
      case measure => simp [intOf]; omega
    · go_wp2
      go_ret
      exact ⟨rfl, below_drewN (Below.refl _ _) nq⟩

end Go.Proofs.Ybulkcci
