/-
  '(*table.scanner).quoted' with raw, BY ITS CONTRACT.
-/
import Derived.Test.YbulkcbgUnquote
namespace Go.Proofs.Ybulkcbg
open Go.RowKit

set_option maxHeartbeats 400000 in
theorem quoted_raw (b g len cap f : Nat) (t : Int) (xs ys : List Int) (w : World) (hx : xs.length ≤ 4096) (h1 : f + xs.length ≤ len) (h2 : len ≤ cap) (ht : t = (f : Int) + (xs.length : Int)) (hu : unqL xs = some ys)
    (hc : w.cell? ⟨b, 1, none⟩ = some (.slice (some ⟨g, 0, none⟩) len cap)) (hg : g < w.heap.size)
    (hcell : ∀ j, j < xs.length → w.cell? ⟨g, f + j, none⟩ = some (.int .u8 (xs.getD j 0))) :
    Calls Yba.prog 5 #[.pointer (some ⟨b, 0, none⟩), .int .i64 f, .int .i64 t, .bool true] w fun e w' => e = .returned (.string (strOfNums ys)) ∧ Below w.heap.size w w' := by
  subst ht
  have hU := fun (off cap' : Nat) (h : ∀ j, j < xs.length → w.cell? ⟨g, off + j, none⟩ = some (.int .u8 (xs.getD j 0))) => unquote_any g off cap' xs ys w hx hu h hg
  have HU : Hid (∀ (off cap' : Nat), (∀ j, j < xs.length → w.cell? ⟨g, off + j, none⟩ = some (.int .u8 (xs.getD j 0))) → Calls Yba.prog 6 #[.slice (some ⟨g, off, none⟩) xs.length cap'] w fun e w' => e = .returned (.string (strOfNums ys)) ∧ Below w.heap.size w w') := hU
  have HC : Hid (∀ j, j < xs.length → w.cell? ⟨g, f + j, none⟩ = some (.int .u8 (xs.getD j 0))) := hcell
  clear hU hu hcell
  go_enter Yba.func5, Yba.ntmps5
  go_wp2_with fail
  · refine (HU.out _ _ (fun j hj => by omega)).mono ?_
    rintro e w' ⟨rfl, hb⟩
    go_wp2
    go_ret
    exact ⟨rfl, hb⟩
  · refine (HU.out _ _ HC.out).mono ?_
    rintro e w' ⟨rfl, hb⟩
    go_wp2
    go_ret
    exact ⟨rfl, hb⟩

end Go.Proofs.Ybulkcbg
