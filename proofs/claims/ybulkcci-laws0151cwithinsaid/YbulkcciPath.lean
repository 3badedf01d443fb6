/-
  'zzs0151cpath' BY ITS CONTRACT: a path of steps, copied into a row of the call's own with room for one step more.
-/
import Derived.Test.YbulkcciRows
import Derived.WalkKit
import Derived.WalkSpells
import Derived.WalkLawsBesides
namespace Go.Proofs.Ybulkcci
open Go.RowKit

/-- One step, as data and as cells. -/
structure Stp where
  k : Int
  s : ByteArray
  i : Int

def Stp.cells (p : Stp) : List Value := [.int .i64 p.k, .string p.s, .int .i64 p.i]
def flat (l : List Stp) : List Value := l.flatMap Stp.cells

theorem flat_length (l : List Stp) : (flat l).length = l.length * 3 := by
  induction l with
  | nil => rfl
  | cons p l ih => simp [flat, Stp.cells] at *; omega
theorem flat_snoc (l : List Stp) (p : Stp) : flat (l ++ [p]) = flat l ++ p.cells := by simp [flat]
theorem flat_take (l : List Stp) (j : Nat) (h : j < l.length) : flat (l.take (j + 1)) = flat (l.take j) ++ l[j].cells := by
  rw [List.take_succ_eq_append_getElem h, flat_snoc]
theorem cells_one (p : Stp) : ∀ u ∈ p.cells, u.oneCell' = true := by
  intro u hu
  simp [Stp.cells] at hu
  rcases hu with rfl | rfl | rfl <;> rfl

theorem info29 : (Yba.prog.info? 29).map (fun i => (i.zero, i.size, i.bytes)) = some (some (.agg #[.int .i64 0, .string ByteArray.empty, .int .i64 0]), 3, 32) := by kernel_rfl

/-- What the walk is told of the path that came in. -/
def Came (w : World) (ao : Option Addr) (l : List Stp) : Prop :=
  ∀ j (hj : j < l.length), ∃ b off, ao = some ⟨b, off, none⟩ ∧ b < w.heap.size ∧
    w.cell? ⟨b, off + j * 3, none⟩ = some (.int .i64 l[j].k) ∧ w.cell? ⟨b, off + j * 3 + 1, none⟩ = some (.string l[j].s) ∧ w.cell? ⟨b, off + j * 3 + 2, none⟩ = some (.int .i64 l[j].i)

/-- The cells of a step that has just been laid in a block of its own. -/
theorem news3 (wr : World) (p : Stp) (t : TypeId) : ∀ j u, p.cells[j]? = some u → (wr.alloc (.cells #[.int .i64 p.k, .string p.s, .int .i64 p.i] t)).cell? ((⟨wr.heap.size, 0, none⟩ : Addr).add j) = some u := by
  intro j u hj
  have hplain : (⟨wr.heap.size, 0, none⟩ : Addr).add j = ⟨wr.heap.size, j, none⟩ := by unfold Addr.add; split <;> simp_all
  rw [hplain]
  match j, hj with
  | 0, hj => simp [Stp.cells] at hj; subst hj; simp
  | 1, hj => simp [Stp.cells] at hj; subst hj; simp
  | 2, hj => simp [Stp.cells] at hj; subst hj; simp
  | j + 3, hj => simp [Stp.cells] at hj
theorem news3' (wr : World) (X : Obj) (p : Stp) (t : TypeId) : ∀ j u, p.cells[j]? = some u → ((wr.alloc X).alloc (.cells #[.int .i64 p.k, .string p.s, .int .i64 p.i] t)).cell? ((⟨wr.heap.size + 1, 0, none⟩ : Addr).add j) = some u := by
  have h := news3 (wr.alloc X) p t
  rwa [World.size_alloc] at h

set_option maxHeartbeats 1000000 in
theorem path_any (ao : Option Addr) (cap : Nat) (l : List Stp) (w : World) (hn : l.length ≤ 1024) (hcame : Came w ao l) :
    Calls Yba.prog 4 #[.slice ao l.length cap] w fun e w' => e = .returned (.slice (some ⟨w.heap.size, 0, none⟩) l.length (l.length + 1)) ∧
      w'.ownsRow w.heap.size 29 3 (.slice (some ⟨w.heap.size, 0, none⟩) l.length (l.length + 1)) l.length (flat l) ∧ Below w.heap.size w w' := by
  obtain ⟨i0, hi, hz0, hz1, hz2⟩ := info_parts info29
  obtain ⟨n, hn'⟩ : ∃ n, n = l.length := ⟨_, rfl⟩
  have HN : Hid (n = l.length) := hn'
  have HC : Hid (Came w ao l) := hcame
  rw [← hn'] at hn ⊢
  clear hn' hcame
  go_enter Yba.func4, Yba.ntmps4
  go_wp2_with (at_make; refine wpList_make_own _ rfl _ _ 25 rfl w.heap.size 29 i0 _ 3 Yba.underlying25 hi hz0 hz1 .i64 .i64 _ (n + 1) rfl rfl (by omega) (by rw [hz2]; omega) (by unfold maxLen; omega) (Nat.le_refl _) ?_; intro w1 hown1 hgrow1)
  go_loopw [3, 12] (fun v i wr => ∃ k : Nat, k ≤ n ∧ i = .int .i64 k ∧ v = .slice (some ⟨w.heap.size, 0, none⟩) k (n + 1) ∧ wr.ownsRow w.heap.size 29 3 (.slice (some ⟨w.heap.size, 0, none⟩) k (n + 1)) k (flat (l.take k)) ∧ Below w.heap.size w wr) (fun _ i _ => n - (intOf i).toNat)
  case atStart => exact ⟨0, Nat.zero_le _, rfl, rfl, hown1, (Below.refl _ _).grown hgrow1 (Nat.le_refl _) (fun k hk => by cases hk)⟩
  case round =>
    clear hown1 hgrow1
    obtain ⟨k, hk, rfl, rfl, hown, hB⟩ := hrel
    have hsz := hB.size
    by_cases hlt : k < n
    · have hkl : k < l.length := by rw [← HN.out]; exact hlt
      obtain ⟨b, off, rfl, hbl, e0, e1, e2⟩ := HC.out k hkl
      have HF : Hid (flat (l.take (k + 1)) = flat (l.take k) ++ l[k].cells) := flat_take l k hkl
      generalize l[k] = p at e0 e1 e2 HF
      have d0 : wr.cell? ⟨b, off + k * 3, none⟩ = some (.int .i64 p.k) := (hB.cell (p := ⟨b, off + k * 3, none⟩) hbl).trans e0
      have d1 : wr.cell? ⟨b, off + k * 3 + 1, none⟩ = some (.string p.s) := (hB.cell (p := ⟨b, off + k * 3 + 1, none⟩) hbl).trans e1
      have d2 : wr.cell? ⟨b, off + k * 3 + 2, none⟩ = some (.int .i64 p.i) := (hB.cell (p := ⟨b, off + k * 3 + 2, none⟩) hbl).trans e2
      clear e0 e1 e2
      go_wp2_with (at_builtin; refine wpList_append_fits _ rfl (.tmp 16) (.tmp 24) 25 rfl w.heap.size 29 i0 3 Yba.underlying25 hi hz1 w.heap.size k (n + 1) _ rfl ((hown.alloc _).alloc _) ⟨wr.heap.size + 1, 0, none⟩ 1 1 p.cells rfl rfl (news3' wr _ p 29) (cells_one p) (by omega) ?_; intro w2 hown2 hgrow2)
      have hB2 : Below w.heap.size w w2 := ((hB.alloc hsz _).alloc (by simp; omega) _).grown hgrow2 (by simp; omega) (fun k hk => by cases hk; exact Nat.le_refl _)
      go_roundw
      case rel => exact ⟨k + 1, by omega, by go_num, rfl, by rw [HF.out]; exact hown2, hB2⟩
      case measure => simp [intOf]; omega
    · have hkn : k = n := by omega
      subst hkn
      have hall : Hid (l.take k = l) := List.take_of_length_le (by rw [← HN.out]; exact Nat.le_refl _)
      rw [hall.out] at hown
      go_wp2
      go_ret
      exact ⟨rfl, hown, hB⟩

end Go.Proofs.Ybulkcci
