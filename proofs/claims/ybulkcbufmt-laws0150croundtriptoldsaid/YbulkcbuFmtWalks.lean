/-
  'bearershift.LawS0150CRoundTrip': THE WALKS.
-/
import Derived.Test.YbulkcbuFmtCards
import Derived.WalkKit
import Derived.WalkSpells
import Derived.Laws.IdiomStrings
import Derived.LoopN
namespace Go.Proofs.YbulkcbuFmt
open Go.RowKit

theorem str_1 (w : World) (S1 : ByteArray) (hc : w.cell? ⟨1, 1, none⟩ = some (.string S1)) : Calls Ybaf.prog 9 #[.int .u8 1] w fun e w' => e = .returned (.string S1) ∧ w' = w := by
  go_enter Ybaf.func9, Ybaf.ntmps9
  go_wp2
  go_ret
  exact ⟨rfl, rfl⟩

theorem str_2 (w : World) (S2 : ByteArray) (hc : w.cell? ⟨1, 2, none⟩ = some (.string S2)) : Calls Ybaf.prog 9 #[.int .u8 2] w fun e w' => e = .returned (.string S2) ∧ w' = w := by
  go_enter Ybaf.func9, Ybaf.ntmps9
  go_wp2
  go_ret
  exact ⟨rfl, rfl⟩

set_option maxHeartbeats 800000 in
theorem index_1 (w : World) (b n cap : Nat) (S1 : ByteArray) (h1 : w.cell? ⟨1, 1, none⟩ = some (.string S1))
    (hcv : (convert 22 9 (.slice (some ⟨b, 0, none⟩) n cap)).run Ybaf.prog w = .ok (.string S1) w) :
    Calls Ybaf.prog 18 #[.slice (some ⟨1, 1, none⟩) 2 2, .slice (some ⟨b, 0, none⟩) n cap] w fun e w' => e = .returned (.int .i64 0) ∧ w' = w := by
  go_enter Ybaf.func18, Ybaf.ntmps18
  go_wp2
  refine wp_loop_rounds 1 ?_
  rw [rounds_succ]
  go_wp2
  go_ret
  exact ⟨rfl, rfl⟩

set_option maxHeartbeats 800000 in
theorem index_2 (w : World) (b n cap : Nat) (S1 S2 : ByteArray) (hne : (S2.toList == S1.toList) = false) (h1 : w.cell? ⟨1, 1, none⟩ = some (.string S1)) (h2 : w.cell? ⟨1, 2, none⟩ = some (.string S2))
    (hcv : (convert 22 9 (.slice (some ⟨b, 0, none⟩) n cap)).run Ybaf.prog w = .ok (.string S2) w) :
    Calls Ybaf.prog 18 #[.slice (some ⟨1, 1, none⟩) 2 2, .slice (some ⟨b, 0, none⟩) n cap] w fun e w' => e = .returned (.int .i64 1) ∧ w' = w := by
  go_enter Ybaf.func18, Ybaf.ntmps18
  go_wp2
  refine wp_loop_rounds 2 ?_
  rw [rounds_succ]
  go_wp2
  rw [rounds_succ]
  go_wp2
  go_ret
  exact ⟨rfl, rfl⟩

set_option maxHeartbeats 800000 in
theorem unmarshal_1 (w : World) (bt b n cap : Nat) (t : Int) (S1 : ByteArray) (h1 : w.cell? ⟨1, 1, none⟩ = some (.string S1))
    (hcv : (convert 22 9 (.slice (some ⟨b, 0, none⟩) n cap)).run Ybaf.prog w = .ok (.string S1) w)
    (ht : w.cell? ⟨bt, 0, none⟩ = some (.int .u8 t)) (hf : w.frozen? ⟨bt, 0, none⟩ = false) :
    Calls Ybaf.prog 11 #[.pointer (some ⟨bt, 0, none⟩), .slice (some ⟨b, 0, none⟩) n cap] w fun e w' => e = .returned .nilIface ∧ w' = w.setCell ⟨bt, 0, none⟩ (.int .u8 1) := by
  go_enter Ybaf.func11, Ybaf.ntmps11
  go_wp2_with (go_at_call 18; refine (index_1 _ b n cap S1 h1 hcv).mono ?_; rintro e w' ⟨rfl, rfl⟩)
  go_ret
  exact ⟨rfl, rfl⟩

set_option maxHeartbeats 800000 in
theorem unmarshal_2 (w : World) (bt b n cap : Nat) (t : Int) (S1 S2 : ByteArray) (hne : (S2.toList == S1.toList) = false) (h1 : w.cell? ⟨1, 1, none⟩ = some (.string S1)) (h2 : w.cell? ⟨1, 2, none⟩ = some (.string S2))
    (hcv : (convert 22 9 (.slice (some ⟨b, 0, none⟩) n cap)).run Ybaf.prog w = .ok (.string S2) w)
    (ht : w.cell? ⟨bt, 0, none⟩ = some (.int .u8 t)) (hf : w.frozen? ⟨bt, 0, none⟩ = false) :
    Calls Ybaf.prog 11 #[.pointer (some ⟨bt, 0, none⟩), .slice (some ⟨b, 0, none⟩) n cap] w fun e w' => e = .returned .nilIface ∧ w' = w.setCell ⟨bt, 0, none⟩ (.int .u8 2) := by
  go_enter Ybaf.func11, Ybaf.ntmps11
  go_wp2_with (go_at_call 18; refine (index_2 _ b n cap S1 S2 hne h1 h2 hcv).mono ?_; rintro e w' ⟨rfl, rfl⟩)
  go_ret
  exact ⟨rfl, rfl⟩

/-- 'string([]byte(s))' is s. -/
theorem conv_back (s : ByteArray) (W : World) (b cap : Nat) (h : ∀ j (hj : j < s.data.size), W.cell? ⟨b, j, none⟩ = some (.int .u8 (s.data[j].toNat : Int))) :
    (convert 22 9 (.slice (some ⟨b, 0, none⟩) s.size cap)).run Ybaf.prog W = .ok (.string s) W := by
  have hb := run_convert_bytes_back (P := Ybaf.prog) W 22 9 5 ⟨b, 0, none⟩ cap s.data.toList Ybaf.underlying22 Ybaf.underlying5 Ybaf.underlying9 (fun j hj => by
    have hplain : (⟨b, 0, none⟩ : Addr).add j = ⟨b, j, none⟩ := by unfold Addr.add; split <;> simp_all
    rw [hplain, h j (by simpa using hj)]
    simp)
  simpa using hb

/-- The world in which UnmarshalText is called. -/
theorem trip_world (w : World) (t : Int) (S S1 S2 : ByteArray) (c : Nat) (m : Nat × Nat) (n1 : w.cell? ⟨1, 1, none⟩ = some (.string S1)) (n2 : w.cell? ⟨1, 2, none⟩ = some (.string S2)) :
    let W := ((w.alloc (.cells #[.int .u8 t] 25)).alloc (.cells (bytesRow S c) 5 m)).drew
    W.cell? ⟨1, 1, none⟩ = some (.string S1) ∧ W.cell? ⟨1, 2, none⟩ = some (.string S2) ∧
    (convert 22 9 (.slice (some ⟨w.heap.size + 1, 0, none⟩) S.size c)).run Ybaf.prog W = .ok (.string S) W ∧
    W.cell? ⟨w.heap.size, 0, none⟩ = some (.int .u8 t) ∧ W.frozen? ⟨w.heap.size, 0, none⟩ = false := by
  intro W
  have hb : Below w.heap.size w W := (((Below.refl _ _).alloc (Nat.le_refl _) _).alloc (by simp) _).drew
  have hb1 : Below (w.alloc (.cells #[.int .u8 t] 25)).heap.size (w.alloc (.cells #[.int .u8 t] 25)) W := ((Below.refl _ _).alloc (Nat.le_refl _) _).drew
  refine ⟨cell_later hb n1, cell_later hb n2, conv_back S W (w.heap.size + 1) c (fun j hj => ?_), cell_later hb1 (by simp), ?_⟩
  · have := World.cell?_alloc_mark (w.alloc (.cells #[.int .u8 t] 25)) (bytesRow S c) 5 m j
    rw [World.size_alloc] at this
    exact this.trans (bytesRow_at S c j hj)
  · rw [hb1.frozen (p := ⟨w.heap.size, 0, none⟩) (by simp)]
    simp

set_option maxHeartbeats 800000 in
theorem trip_walk (x t : Int) (w : World) (S1 S2 : ByteArray) (h0 : 0 ≤ x) (h1 : x ≤ 255) (hne : (S2.toList == S1.toList) = false) (n1 : w.cell? ⟨1, 1, none⟩ = some (.string S1)) (n2 : w.cell? ⟨1, 2, none⟩ = some (.string S2)) (hlt : 1 < w.heap.size) :
    Calls Ybaf.prog 5 #[.int .u8 x, .int .u8 t] w fun e w' => e = .returned (.bool true) ∧ Below w.heap.size w w' := by
  have hconv := fun (w : World) (s : ByteArray) => run_bytes_of_string (P := Ybaf.prog) w 9 22 5 s Ybaf.underlying9 Ybaf.underlying22 Ybaf.underlying5
  rcases (show x % 2 = 0 ∨ x % 2 = 1 by omega) with h | h
  · have TW : Hid (∀ c m, _) := fun c m => trip_world w t S1 S1 S2 c m n1 n2
    go_enter Ybaf.func5, Ybaf.ntmps5
    go_wp2_with (go_at_call 9; refine (str_1 _ S1 (by go_simp)).mono ?_; rintro e w' ⟨rfl, rfl⟩)
    obtain ⟨t1, t2, tc, tt, tf⟩ := TW.out _ _
    refine (unmarshal_1 _ _ _ _ _ t S1 t1 tc tt tf).mono ?_
    rintro e w' ⟨rfl, rfl⟩
    go_wp2
    go_ret
    exact ⟨rfl, (((Below.refl _ _).alloc (Nat.le_refl _) _).alloc (by simp) _).drew⟩
  · have TW : Hid (∀ c m, _) := fun c m => trip_world w t S2 S1 S2 c m n1 n2
    go_enter Ybaf.func5, Ybaf.ntmps5
    go_wp2_with (go_at_call 9; refine (str_2 _ S2 (by go_simp)).mono ?_; rintro e w' ⟨rfl, rfl⟩)
    obtain ⟨t1, t2, tc, tt, tf⟩ := TW.out _ _
    refine (unmarshal_2 _ _ _ _ _ t S1 S2 hne t1 t2 tc tt tf).mono ?_
    rintro e w' ⟨rfl, rfl⟩
    go_wp2
    go_ret
    exact ⟨rfl, (((Below.refl _ _).alloc (Nat.le_refl _) _).alloc (by simp) _).drew⟩

end Go.Proofs.YbulkcbuFmt
