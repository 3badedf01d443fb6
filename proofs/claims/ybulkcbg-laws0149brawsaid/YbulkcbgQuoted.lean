/-
  '(*table.scanner).quoted' without raw, BY ITS CONTRACT.
-/
import Derived.Test.YbulkcbgRows
import Derived.WalkKit
import Derived.WalkSpells
namespace Go.Proofs.Ybulkcbg
open Go.RowKit

set_option maxHeartbeats 400000 in
theorem quoted_plain (b : Nat) (s : ByteArray) (f t : Int) (w : World) (h0 : 0 ≤ f) (h1 : f ≤ t) (h2 : t ≤ (s.size : Int))
    (hc : w.cell? ⟨b, 4, none⟩ = some (.string s)) :
    Calls Yba.prog 5 #[.pointer (some ⟨b, 0, none⟩), .int .i64 f, .int .i64 t, .bool false] w fun e w' => e = .returned (.string (s.extract f.toNat t.toNat)) ∧ w' = w := by
  go_enter Yba.func5, Yba.ntmps5
  go_wp2
  go_ret
  exact ⟨rfl, rfl⟩

end Go.Proofs.Ybulkcbg
