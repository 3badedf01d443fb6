/-
  'Rows.LawS0150CRoundTripToldSaid': from the walk to the told and tied card.
-/
import Derived.Test.YbulkcbuFmtWalks
import Derived.Test.YbulkcbuFmtTie
import Derived.ProofKit
import Derived.OpenShut
import Derived.LaidMore
import Derived.Deep.DeepWitnessRef
import Derived.Stop.JoinedTold
import Derived.SevenTiedAt
namespace Go.Proofs.YbulkcbuFmt
open Go.ChangeShapes Go.WideShapes Go.ChangeAt Go.RowKit
open Go.Extern.Stop Go.Stop Go.Extern

theorem own : ownKnob Ybaf.prog.godebug = none := by kernel_rfl
theorem laidOut : laidOutB Ybaf.pinned.checked.prog = true := by kernel_rfl
theorem stops : Ybaf.pinned.checked.prog.stops = Rows.lawS0150CRoundTripRow.stops := by kernel_rfl
theorem stopKnobs : Ybaf.pinned.checked.prog.stopKnobs = [] := by kernel_rfl
theorem quiet (os : Os) : Stop.quiet Ybaf.pinned.checked.prog os := by
  intro k hk
  rw [stopKnobs] at hk
  cases hk
/-- The listed variable, by the given row's own word. -/
def nm : String := Rows.lawS0150CRoundTripSpec.vars.headD ""
theorem gN : Ybaf.prog.globalNamed nm = some 1 := by kernel_rfl
theorem tN : (Ybaf.prog.globals[1]?).map (·.type) = some 70 := by kernel_rfl
theorem c9 : Ybaf.prog.cellsOf 9 = 1 := by kernel_rfl
theorem c70 : Ybaf.prog.cellsOf 70 = 3 := by kernel_rfl

def noneS : ByteArray := ⟨#[110, 111, 110, 101]⟩
def speechS : ByteArray := ⟨#[115, 112, 101, 101, 99, 104]⟩
def multiS : ByteArray := ⟨#[109, 117, 108, 116, 105, 109, 101, 100, 105, 97]⟩

theorem bytes_eq {s r : ByteArray} (h : s.data.toList = r.data.toList) : s = r := by
  cases s; cases r; simpa using h

set_option maxRecDepth 100000 in
/-- WHAT THE CONDITION GIVES: the variable's three cells. -/
theorem of_laid {W : World} (h : laidMetH Ybaf.prog [(nm, Rows.laid_example_com_bearershift_bearershift_serviceNames)] W) :
    W.var? Ybaf.prog nm = some #[.string noneS, .string speechS, .string multiS] := by
  rw [MakeChecks.laidMetH_plain _ _ _ (by kernel_rfl)] at h
  obtain ⟨ps, ⟨g0, t0, cs0, f0, p0, q0, hg0, ht0, hv0, hd0, _⟩, _, _⟩ := h
  obtain rfl := Option.some.inj (gN.symm.trans hg0)
  obtain rfl := Option.some.inj (tN.symm.trans ht0)
  obtain ⟨xs, m1, rfl, hx, hlen, hn3, hel⟩ := DataW.trod_array Ybaf.underlying70 hd0
  have e0 := hel 0 (by decide)
  have e1 := hel 1 (by decide)
  have e2 := hel 2 (by decide)
  rw [c9] at e0 e1 e2
  rw [c70] at hlen
  obtain ⟨l⟩ := cs0
  simp only at hlen e0 e1 e2
  match l, hlen, xs, hn3, hx, e0, e1, e2, hv0 with
  | [a0, a1, a2], _, [x0, x1, x2], _, hx, e0, e1, e2, hv0 =>
    simp only [Prod.mk.injEq, DataW.agg.injEq, List.map_cons, List.map_nil, List.cons.injEq, Rows.laid_example_com_bearershift_bearershift_serviceNames] at hx
    obtain ⟨s0, k0, y0, _⟩ := DataW.trod_string Ybaf.underlying9 (show DataW.trod _ Ybaf.prog W 0 _ _ m1 9 _ = some x0 from e0)
    obtain ⟨s1, k1, y1, _⟩ := DataW.trod_string Ybaf.underlying9 (show DataW.trod _ Ybaf.prog W 0 _ _ m1 9 _ = some x1 from e1)
    obtain ⟨s2, k2, y2, _⟩ := DataW.trod_string Ybaf.underlying9 (show DataW.trod _ Ybaf.prog W 0 _ _ m1 9 _ = some x2 from e2)
    simp at k0 k1 k2
    subst k0 k1 k2
    rw [y0, y1, y2] at hx
    simp at hx
    obtain ⟨⟨h0, h1, h2⟩, _⟩ := hx
    rw [hv0, bytes_eq (s := s0) (r := noneS) (by rw [← h0]; rfl), bytes_eq (s := s1) (r := speechS) (by rw [← h1]; rfl), bytes_eq (s := s2) (r := multiS) (by rw [← h2]; rfl)]

/-- The variable reads so in whatever world holds those cells. -/
theorem names_read {H : Type} (enc : TypeId × Value → H) (W : World) (sp : Nat → Bool) (hv : W.var? Ybaf.prog nm = some #[.string noneS, .string speechS, .string multiS]) :
    DataW.TrodVars enc Ybaf.prog W sp [nm] [.agg [.lit (.string noneS.data.toList), .lit (.string speechS.data.toList), .lit (.string multiS.data.toList)]] (MemPlace.row ⟨1, 0, none⟩ 3 ++ []) := by
  refine trodVars_mk1 (fuel := 3) (cs := #[.string noneS, .string speechS, .string multiS]) gN tN hv ?_
  kernel_rfl

theorem var?_below {P : Program} {B g : Nat} {W W' : World} {n : String} {cs : Array Value} (h : Below B W W') (hg : P.globalNamed n = some g) (hgB : g < B) (hv : W.var? P n = some cs) : W'.var? P n = some cs := by
  unfold World.var? at hv ⊢
  simp only [hg, Option.bind_some] at hv ⊢
  rw [h.block g hgB]
  exact hv

/-- The door's own heap meets the condition. -/
theorem door_met (os : Os) (args : Array Value) : laidMetH Ybaf.prog [(nm, Rows.laid_example_com_bearershift_bearershift_serviceNames)] ((World.doorLaid Ybaf.prog 400 os).forCall (fun _ _ => 0) ⟨#[], args, []⟩).memory :=
  laidMetH_of_parts3 (fuel := 8) (laidMet_of_run' 8 (by kernel_rfl) (by kernel_rfl)) (by kernel_rfl) (by kernel_rfl)

set_option maxRecDepth 100000 in
theorem trip_lifted (os : Os) (started : os.Started) (H : Type) (enc : TypeId × Value → H) :
    ReturnsInTold none {} Ybaf.checked os 5 .any Input.okWide ((OpenSpec.ofChange Rows.lawS0150CRoundTripSpec).preRow enc Ybaf.prog Ybaf.f5 [] false [(nm, Rows.laid_example_com_bearershift_bearershift_serviceNames)]) (fun F => ((OpenSpec.ofChange Rows.lawS0150CRoundTripSpec).at F).post enc Ybaf.prog Ybaf.f5 false true false false) (aloneAtReturn Ybaf.prog) nothingAlways := by
  refine returnsInTold_of_row (C := Ybaf.checked) (s := OpenSpec.ofChange Rows.lawS0150CRoundTripSpec) (by kernel_rfl) own started (by kernel_rfl) Ybaf.func5
    (OpenSpec.witness_stopped_atRef (enc := enc) (C := Ybaf.checked) false (World.doorLaid Ybaf.prog 400 os) #[.int .u8 0, .int .u8 0] rfl (by kernel_rfl) (by kernel_rfl) (by kernel_rfl)
      (OpenSpec.preRow_of_B rfl 8 (by kernel_rfl) (by kernel_rfl) (door_met os _))) ?_
  intro F W base args ds gs before _ hF hval0 hW _ _ _ hL _
  have hval : ∀ (j : Nat) t v, Ybaf.f5.params[j]? = some t → args[j]? = some v → Value.okWide Ybaf.prog W .any base t v := hval0
  have hW' := hW
  obtain ⟨p, q, hA0, hV0, rfl, hfz, hnd⟩ := hW
  have hA : DataW.TrodAll enc Ybaf.prog W 0 (fun _ => true) true Ybaf.f5.params.toList args.toList ds p := hA0
  have hV : DataW.TrodVars enc Ybaf.prog W (fun _ => true) [nm] gs q := hV0
  rw [Ybaf.params5] at hA hval
  obtain ⟨v0, v1, d0, d1, p0, p1, rfl, rfl, rfl, h0, h1⟩ := trodAll_two hA
  obtain ⟨x, rfl, rfl, rfl, wx⟩ := open_int Ybaf.underlying5 (hval 0 5 v0 rfl rfl) h0
  obtain ⟨y, rfl, rfl, rfl, wy⟩ := open_int Ybaf.underlying5 (hval 1 5 v1 rfl rfl) h1
  have hv := of_laid hL
  obtain ⟨rfl, rfl⟩ := hV.unique (names_read enc W _ hv)
  clear hA0 hV0 hval0
  have n1 : W.cell? ⟨1, 1, none⟩ = some (.string speechS) := by simpa using World.var?_cell gN hv 1
  have n2 : W.cell? ⟨1, 2, none⟩ = some (.string multiS) := by simpa using World.var?_cell gN hv 2
  have hlt : 1 < W.heap.size := World.block_lt_of_cell? _ _ n1
  have hb := bounds_u8 wx
  refine (trip_walk x y W speechS multiS hb.1 hb.2 (by decide +kernel) n1 n2 hlt).mono fun e W' ⟨he, hB⟩ => ?_
  subst he
  refine ⟨_, rfl, _, _, _, [], [] ++ [], MemPlace.row ⟨1, 0, none⟩ 3 ++ [], hW', ?_, ?_, ?_, hB.frame _, fun h => by cases h⟩
  · exact trodAll_mk1 (shut_bool Ybaf.underlying4 _)
  · exact trodAll_mk2 (shut_int Ybaf.underlying5 wx) (shut_int Ybaf.underlying5 wy)
  · exact names_read enc W' _ (var?_below hB gN hlt hv)

/-- THE STATEMENT. -/
theorem trip_proved : Rows.LawS0150CRoundTripToldSaid :=
  Claim7.holds_of_told_tied_any_at .later 5 Ybaf.f5 _ _ [] _ _ _ _ _ (by kernel_rfl) rfl rfl rfl laidOut (by kernel_rfl) rfl ⟨rfl, rfl, rfl, rfl, rfl, rfl, rfl⟩ rfl rfl (by kernel_rfl) (by kernel_rfl) Ybaf.func5 (by kernel_rfl)
    (of_decide_eq_true (by kernel_rfl)) (of_decide_eq_true (by kernel_rfl)) stops.symm rfl stopKnobs.symm (by kernel_rfl)
    (by kernel_rfl) (by kernel_rfl) (by kernel_rfl) (by kernel_rfl) (by kernel_rfl) (by kernel_rfl) (by kernel_rfl) (by kernel_rfl) (by kernel_rfl) rfl (by kernel_rfl) rfl rfl
    rfl rfl
    rfl (by kernel_rfl) (by kernel_rfl) (by kernel_rfl) (by decide) (by kernel_rfl) lawS0150CRoundTrip_row_tie
    (OpenClaim.moreEntering_of (by kernel_rfl) (by kernel_rfl) (by kernel_rfl) (by kernel_rfl) (by kernel_rfl) (by kernel_rfl) (by kernel_rfl) (by kernel_rfl) (by kernel_rfl) (by kernel_rfl))
    ⟨_, WideRow.started_initial, quiet _⟩
    (fun os started _ H enc _ => trip_lifted os started H enc)

end Go.Proofs.YbulkcbuFmt
