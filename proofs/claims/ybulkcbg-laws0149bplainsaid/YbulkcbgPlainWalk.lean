/-
  'table.LawS0149BPlain': THE WALK.
-/
import Derived.Test.YbulkcbgQuoted
import Derived.Laws.IdiomStrings
import Derived.RegionTactic
namespace Go.Proofs.Ybulkcbg
open Go.RowKit

theorem plain_long (a0 : ByteArray) (a1 : Int) (a2 : Int) (w : World) (h : (4096 : Int) < (a0.size : Int)) :
    Calls Yba.prog 3 #[.string a0, .int .u64 a1, .int .u64 a2] w fun e w' => e = .returned (.bool true) ∧ Below w.heap.size w w' := by
  go_enter Yba.func3, Yba.ntmps3
  go_wp2
  go_ret
  exact ⟨rfl, Below.refl _ _⟩

theorem extract_size (s : ByteArray) (f g : Nat) (h : f + g ≤ s.size) : (s.extract f (f + g)).size = g := by
  rw [ByteArray.size_extract]; omega

theorem extract_byte {s got : ByteArray} {f g k : Nat} (h : got = s.extract f (f + g)) {h1 : k < got.size} (h2 : f + k < s.size) : got[k] = s[f + k] := by
  subst h
  exact ByteArray.getElem_extract _

set_option maxHeartbeats 800000 in
theorem plain_short (a0 : ByteArray) (a1 : Int) (a2 : Int) (w : World) (h : (a0.size : Int) ≤ 4096) (b1 : 0 ≤ a1) (b2 : a1 ≤ 18446744073709551615) (b3 : 0 ≤ a2) (b4 : a2 ≤ 18446744073709551615) :
    Calls Yba.prog 3 #[.string a0, .int .u64 a1, .int .u64 a2] w fun e w' => e = .returned (.bool true) ∧ Below w.heap.size w w' := by
  have hconv := fun (w : World) => run_bytes_of_string (P := Yba.prog) w 9 24 5 a0 Yba.underlying9 Yba.underlying24 Yba.underlying5
  obtain ⟨f, hf⟩ := Int.eq_ofNat_of_zero_le (Int.emod_nonneg a1 (b := (a0.size : Int) + 1) (by omega))
  have hfl : (f : Int) ≤ (a0.size : Int) := by have := Int.emod_lt_of_pos a1 (b := (a0.size : Int) + 1) (by omega); omega
  obtain ⟨g, hg⟩ := Int.eq_ofNat_of_zero_le (Int.emod_nonneg a2 (b := (a0.size : Int) - (f : Int) + 1) (by omega))
  have hgl : (f : Int) + (g : Int) ≤ (a0.size : Int) := by have := Int.emod_lt_of_pos a2 (b := (a0.size : Int) - (f : Int) + 1) (by omega); omega
  obtain ⟨got, hgot⟩ : ∃ got, got = a0.extract f (f + g) := ⟨_, rfl⟩
  have hsz : got.size = g := by rw [hgot]; exact extract_size a0 f g (by omega)
  have HG : Hid (got = a0.extract f (f + g)) := hgot
  clear hgot
  go_enter Yba.func3, Yba.ntmps3
  go_wp2_with fail
  refine (quoted_plain _ a0 _ _ _ (by omega) (by omega) hgl (by go_simp)).mono ?_
  rintro e w' ⟨rfl, rfl⟩
  rw [show (f : Int).toNat = f from by omega, show ((f : Int) + (g : Int)).toNat = f + g from by omega, ← HG.out]
  go_wp2
  go_loopw [12] (fun i wr => ∃ k : Nat, k ≤ g ∧ i = .int .i64 k ∧ Below w.heap.size w wr) (fun i _ => g - (intOf i).toNat)
  case atStart => exact ⟨0, Nat.zero_le _, rfl, (((Below.refl _ _).alloc (Nat.le_refl _) _).alloc (by simp) _).drew⟩
  case round =>
    obtain ⟨k, hk, rfl, hgr⟩ := hrel
    by_cases hlt : k < g
    · have hi1 : (k : Int) < (g : Int) := by omega
      have hi2 : (f : Int) + (k : Int) < (a0.size : Int) := by omega
      have hi3 : 0 ≤ (f : Int) + (k : Int) := by omega
      go_wp2
      go_region
      go_wp2
      · have hbad : (((got[k]'(by omega)).toNat : Int) != ((a0[f + k]'(by omega)).toNat : Int)) = true := by assumption
        exact absurd hbad (by rw [extract_byte HG.out (by omega)]; simp)
      · go_roundw
        case rel => exact ⟨k + 1, by omega, by go_num, hgr.drew⟩
        case measure => simp [intOf]; omega
    · go_wp2
      go_ret
      exact ⟨rfl, hgr⟩

end Go.Proofs.Ybulkcbg
