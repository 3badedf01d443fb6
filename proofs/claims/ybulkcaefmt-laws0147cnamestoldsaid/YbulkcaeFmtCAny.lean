/-
  'decimal.LawS0147CAny' AND 'decimal.LawS0147CNames': the walks over (Rounding).String, and the closed facts on fmt.Sprintf's stop.
-/
import Derived.Test.YbulkcaeFmtCards
import Derived.WalkKit
import Derived.WalkSpells
import Derived.ProofKit
import Derived.Stop.CallBack
import Derived.Stop.IfaceNil
import Derived.Stop.JoinedAt
import Derived.Stop.Texts
import Derived.Stop.JoinedTold
import Derived.SevenToldRow
namespace Go.Proofs.YbulkcaeFmt
open Go.ChangeShapes Go.WideShapes Go.ChangeAt Go.RowKit Go.Kit
open Go.Extern.Stop Go.Stop Go.Extern

theorem own : ownKnob Ybaf.prog.godebug = none := by kernel_rfl
theorem laidOut : laidOutB Ybaf.pinned.checked.prog = true := by kernel_rfl
theorem stops : Ybaf.pinned.checked.prog.stops = ["fmt.Sprintf"] := by kernel_rfl
theorem stopKnobs : Ybaf.pinned.checked.prog.stopKnobs = [] := by kernel_rfl
theorem quiet (os : Os) : Stop.quiet Ybaf.pinned.checked.prog os := by
  intro k hk
  rw [stopKnobs] at hk
  cases hk

theorem call27 (args : Array Value) (w : World) : (callFunc 27 args).run Ybaf.prog w = ((FmtStop.sprintf #[9, 140] #[9] args).run Ybaf.prog w).andThen fun v w' => .ok (.value v) w' :=
  run_callFunc_extern Ybaf.func27 (by kernel_rfl) (by kernel_rfl) (by kernel_rfl) (by kernel_rfl) args w
theorem guard (name : String) (w : World) : (FmtStop.guard name).run Ybaf.prog w = .ok () w := by kernel_rfl
-- the format of rounding.go:29, one operand
theorem fmtA : FmtStop.printed? ⟨#[82, 111, 117, 110, 100, 105, 110, 103, 40, 37, 100, 41]⟩ 1 = some [(0, 100, false)] := by kernel_rfl
theorem fmtAr (w : World) : (FmtDoors.printed ⟨#[82, 111, 117, 110, 100, 105, 110, 103, 40, 37, 100, 41]⟩ 1).run Ybaf.prog w = .ok [(0, 100, false)] w := by kernel_rfl
def shape3 : List UInt8 := [5, 3, 0, 0, 0, 0, 0, 0, 0, 105, 110, 116]
theorem op3_100 (name : String) (x : Int) (w : World) : (FmtStop.operand name false 100 false (.iface 3 (.int .i64 x))).run Ybaf.prog w = .ok (shape3, Go.Extern.Stop.digits 8 (x % 2 ^ 64).toNat) w := by kernel_rfl

attribute [local go_sem] call27 guard fmtA fmtAr op3_100

set_option maxHeartbeats 400000 in
theorem str_0 (w : World) : Calls Ybaf.prog 16 #[.int .i64 0] w fun e w' => e = .returned (.string ⟨#[104, 97, 108, 102, 45, 117, 112]⟩) ∧ w' = w := by
  go_enter Ybaf.func16, Ybaf.ntmps16
  go_wp2
  go_ret
  exact ⟨rfl, rfl⟩

set_option maxHeartbeats 400000 in
theorem str_1 (w : World) : Calls Ybaf.prog 16 #[.int .i64 1] w fun e w' => e = .returned (.string ⟨#[99, 117, 116]⟩) ∧ w' = w := by
  go_enter Ybaf.func16, Ybaf.ntmps16
  go_wp2
  go_ret
  exact ⟨rfl, rfl⟩

set_option maxHeartbeats 400000 in
theorem str_else (F : Interp) (x : Int) (w : World) (hF : F.answers w.tape) (h0 : (x == 0) = false) (h1 : (x == 1) = false) :
    Calls Ybaf.prog 16 #[.int .i64 x] w fun e w' => (∃ s, e = .returned (.string s)) ∧ Below w.heap.size w w' := by
  have hF' := answers_open hF
  go_enter Ybaf.func16, Ybaf.ntmps16
  go_wp2
  go_ret
  exact ⟨⟨_, rfl⟩, ((Below.refl _ w).alloc (Nat.le_refl _) _).drew⟩

set_option maxHeartbeats 400000 in
theorem any_walk (F : Interp) (x : Int) (w : World) (hF : F.answers w.tape) :
    Calls Ybaf.prog 6 #[.int .i64 x] w fun e w' => e = .returned (.bool true) ∧ Below w.heap.size w w' := by
  by_cases h0 : x = 0
  · subst h0
    go_enter Ybaf.func6, Ybaf.ntmps6
    go_wp2_with (go_at_call 16; refine (str_0 _).mono ?_; rintro e w' ⟨rfl, rfl⟩)
    go_ret
    exact ⟨rfl, Below.refl _ _⟩
  · by_cases h1 : x = 1
    · subst h1
      go_enter Ybaf.func6, Ybaf.ntmps6
      go_wp2_with (go_at_call 16; refine (str_1 _).mono ?_; rintro e w' ⟨rfl, rfl⟩)
      go_ret
      exact ⟨rfl, Below.refl _ _⟩
    · have g0 : (x == 0) = false := beq_eq_false_iff_ne.2 h0
      have g1 : (x == 1) = false := beq_eq_false_iff_ne.2 h1
      clear h0 h1
      go_enter Ybaf.func6, Ybaf.ntmps6
      go_wp2_with (go_at_call 16; refine (str_else F x _ hF g0 g1).mono ?_; rintro e w' ⟨⟨s, rfl⟩, hb⟩)
      go_ret
      exact ⟨rfl, hb⟩

set_option maxHeartbeats 400000 in
theorem names_walk (x : Int) (w : World) (h0 : 0 ≤ x) (h1 : x ≤ 255) :
    Calls Ybaf.prog 5 #[.int .u8 x] w fun e w' => e = .returned (.bool true) ∧ Below w.heap.size w w' := by
  rcases (show x % 2 = 0 ∨ x % 2 = 1 by omega) with h | h
  · go_enter Ybaf.func5, Ybaf.ntmps5
    go_wp2_with (go_at_call 16; refine (str_0 _).mono ?_; rintro e w' ⟨rfl, rfl⟩)
    go_ret
    exact ⟨rfl, Below.refl _ _⟩
  · go_enter Ybaf.func5, Ybaf.ntmps5
    go_wp2_with (go_at_call 16; refine (str_1 _).mono ?_; rintro e w' ⟨rfl, rfl⟩)
    go_ret
    exact ⟨rfl, Below.refl _ _⟩

end Go.Proofs.YbulkcaeFmt
