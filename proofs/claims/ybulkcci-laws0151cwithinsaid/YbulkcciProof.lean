/-
  'Rows.LawS0151CWithinSaid': from the walk to the row.
-/
import Derived.Test.YbulkcciLaw
import Derived.ProofKit
import Derived.OpenShut
import Derived.Deep.Slices
import Derived.Lib.SmallJoins
import Derived.Carry
namespace Go.Proofs.Ybulkcci
open Go.ChangeShapes Go.WideShapes Go.ChangeAt Go.RowKit Go.Deep

theorem own : ownKnob Yba.prog.godebug = none := by kernel_rfl
theorem laidOut : laidOutB Yba.prog = true := by kernel_rfl
theorem cells24 : Yba.prog.cellsOf 24 = 3 := by kernel_rfl
theorem cells3 : Yba.prog.cellsOf 3 = 1 := by kernel_rfl
theorem cells9 : Yba.prog.cellsOf 9 = 1 := by kernel_rfl

/-- One step's cells, from its reading. -/
theorem step_of {H : Type} {enc : TypeId × Value → H} {W : World} {n : Nat} {cs : List Value} {x : DataW H × List MemPlace} (h : DataW.trod enc Yba.prog W 0 (fun _ => true) true n 24 cs = some x) :
    ∃ p : Stp, cs = p.cells := by
  obtain ⟨xs, k, _, _, hl, hxl, hf⟩ := DataW.trod_struct Yba.underlying24 h
  rw [cells24] at hl
  match xs, hxl, cs, hl with
  | [y0, y1, y2], _, [v0, v1, v2], _ =>
    have g0 := hf 0 _ rfl
    have g1 := hf 1 _ rfl
    have g2 := hf 2 _ rfl
    simp [cells3, cells9] at g0 g1 g2
    obtain ⟨a, ha, _, _⟩ := DataW.trod_int Yba.underlying3 g0
    obtain ⟨b, hb, _, _⟩ := DataW.trod_string Yba.underlying9 g1
    obtain ⟨c, hc, _, _⟩ := DataW.trod_int Yba.underlying3 g2
    simp at ha hb hc
    exact ⟨⟨a, b, c⟩, by simp [Stp.cells, ha, hb, hc]⟩

theorem came_of {H : Type} {enc : TypeId × Value → H} {W : World} {ao : Option Addr} {len cap : Nat} {d : DataW H} {ps : List MemPlace} (h : DataW.Trod enc Yba.prog W 0 (fun _ => true) true 22 (.slice ao len cap) d ps) :
    ∃ l : List Stp, l.length = len ∧ Came W ao l := by
  obtain ⟨fuel, hf⟩ := h
  rcases open_slice Yba.underlying22 hf with ⟨hcs, _⟩ | ⟨a, len', cap', m, n, D, Pl, hcs, _, hl, _, hmm, _, hx⟩
  · simp [Value.cells] at hcs
    exact ⟨[], by simp [hcs], fun j hj => by simp at hj⟩
  · simp [Value.cells] at hcs
    obtain ⟨rfl, rfl, rfl⟩ := hcs
    simp only [if_true] at hmm
    have each : ∀ i, i < len → ∃ p : Stp, ∀ j, j < 3 → W.cell? (a.add (i * 3 + j)) = p.cells[j]? := by
      intro i hi
      obtain ⟨cs', h1, h2⟩ := hx i (by omega)
      rw [cells24] at h1
      obtain ⟨_, _, hcell⟩ := World.cells?_some h1
      obtain ⟨p, rfl⟩ := step_of h2
      exact ⟨p, fun j hj => by rw [← add_add]; exact hcell j hj⟩
    have inst : Inhabited Stp := ⟨⟨0, ByteArray.empty, 0⟩⟩
    obtain ⟨q, hq⟩ := @choose_lt Stp inst _ _ each
    refine ⟨(List.range len).map q, by simp, fun j hj => ?_⟩
    have hjl : j < len := by simpa using hj
    obtain ⟨b, off, spot⟩ := a
    have h0 := hq 0 (by omega) 0 (by omega)
    have hspot : spot = none := by simpa [Addr.add] using World.cell?_spot (v := .int .i64 (q 0).k) h0
    subst hspot
    have e0 := hq j hjl 0 (by omega)
    have e1 := hq j hjl 1 (by omega)
    have e2 := hq j hjl 2 (by omega)
    rw [add_plain] at e0 e1 e2
    have k0 : W.cell? ⟨b, off + j * 3, none⟩ = some (.int .i64 (q j).k) := e0
    refine ⟨b, off, rfl, World.block_lt_of_cell? _ _ k0, ?_, ?_, ?_⟩
    · simpa using k0
    · simpa [Nat.add_assoc, Stp.cells] using e1
    · simpa [Nat.add_assoc, Stp.cells] using e2

set_option maxRecDepth 100000 in
theorem lifted (os : Os) (started : os.Started) (H : Type) (enc : TypeId × Value → H) :
    ReturnsInHanded {} Yba.checked os 3 .any (Rows.lawS0151CWithinSpec.pre6 enc Yba.prog Yba.f3 Rows.lawS0151CWithinRow.domain false) (Rows.lawS0151CWithinSpec.post enc Yba.prog Yba.f3 false true false false) := by
  refine returnsInHanded_of_change (C := Yba.checked) own started (by kernel_rfl) Yba.func3
    (ChangeSpec.witness6 (enc := enc) (C := Yba.checked) false ⟨#[], #[.slice none 0 0, .agg #[.int .i64 0, .string ByteArray.empty, .int .i64 0], .bool false, .int .i64 0], []⟩ 8 (by kernel_rfl) (by kernel_rfl) (by kernel_rfl) (by kernel_rfl)) ?_
  intro W base args ds gs before hval0 hW _ _
  have hval : ∀ (j : Nat) t v, Yba.f3.params[j]? = some t → args[j]? = some v → Value.okWide Yba.prog W .any base t v := hval0
  have hW' := hW
  obtain ⟨p, q, hA0, hV, rfl, _, _⟩ := hW
  have hA : DataW.TrodAll enc Yba.prog W 0 (fun _ => true) true Yba.f3.params.toList args.toList ds p := hA0
  rw [Yba.params3] at hA hval
  obtain ⟨v0, vs0, d0, ds0, p0, q0, hargs, rfl, rfl, h0, r0⟩ := trodAll_cons hA
  obtain ⟨v1, vs1, d1, ds1, p1, q1, rfl, rfl, rfl, h1, r1⟩ := trodAll_cons r0
  obtain ⟨v2, vs2, d2, ds2, p2, q2, rfl, rfl, rfl, h2, r2⟩ := trodAll_cons r1
  obtain ⟨v3, vs3, d3, ds3, p3, q3, rfl, rfl, rfl, h3, r3⟩ := trodAll_cons r2
  obtain ⟨rfl, rfl, rfl⟩ := trodAll_nil r3
  obtain rfl : args = #[v0, v1, v2, v3] := by cases args; simp_all
  obtain ⟨rfl, rfl⟩ := trodVars_none hV
  obtain ⟨ao, len, cap, rfl⟩ := okWide_slice Yba.underlying22 (hval 0 22 v0 rfl rfl)
  obtain ⟨l, rfl, hcame⟩ := came_of h0
  obtain ⟨cs, rfl, _⟩ := okWide_struct Yba.underlying24 (hval 1 24 v1 rfl rfl)
  obtain ⟨s, hs⟩ : ∃ s : Stp, cs = #[.int .i64 s.k, .string s.s, .int .i64 s.i] := by
    obtain ⟨fuel, hf⟩ := h1
    obtain ⟨s, hs⟩ := step_of hf
    exact ⟨s, by cases cs; simpa [Value.cells, Stp.cells] using hs⟩
  subst hs
  have hlt : ∀ x ∈ (p0 ++ (p1 ++ (p2 ++ (p3 ++ [])))), x.block < W.heap.size := fun x hx => by simpa using hW'.lt x (by simpa using hx)
  simp only [List.mem_append] at hlt
  have h2' := h2
  have h3' := h3
  obtain ⟨fail, rfl, _, _⟩ := open_bool Yba.underlying4 (hval 2 4 v2 rfl rfl) h2
  obtain ⟨at_, rfl, _, _, _⟩ := open_int Yba.underlying3 (hval 3 3 v3 rfl rfl) h3
  clear hA0 hval0
  simp only [List.append_nil] at hW'
  refine (law_any ao cap l s fail at_ W hcame).mono fun e W' ⟨he, bel⟩ => ?_
  subst he
  refine ⟨_, rfl, _, _, _, [], p0 ++ (p1 ++ (p2 ++ (p3 ++ []))), [], hW', trodAll_mk1 (shut_bool Yba.underlying4 _), ?_, rfl, bel.frame _, fun h => by cases h⟩
  exact trodAll_cons_mk (Below.trod laidOut (by kernel_rfl) (of_decide_eq_true (by kernel_rfl)) h0 bel (fun x hx => hlt x (.inl hx)))
    (trodAll_cons_mk (Below.trod laidOut (by kernel_rfl) (of_decide_eq_true (by kernel_rfl)) h1 bel (fun x hx => hlt x (.inr (.inl hx))))
      (trodAll_cons_mk (Below.trod laidOut (by kernel_rfl) (of_decide_eq_true (by kernel_rfl)) h2' bel (fun x hx => hlt x (.inr (.inr (.inl hx)))))
        (trodAll_cons_mk (Below.trod laidOut (by kernel_rfl) (of_decide_eq_true (by kernel_rfl)) h3' bel (fun x hx => hlt x (.inr (.inr (.inr (.inl hx)))))) trodAll_mk0)))

/-- THE STATEMENT. -/
theorem within_proved : Rows.LawS0151CWithinSaid :=
  OpenClaim.holds_of_wide 3 Yba.f3 rfl rfl rfl rfl rfl rfl rfl ⟨rfl, rfl, rfl, rfl, rfl⟩ rfl rfl rfl rfl rfl (by kernel_rfl) Yba.func3 (by kernel_rfl)
    (of_decide_eq_true (by kernel_rfl)) (by unfold Func.isWrapper; first | (rw [if_pos (by decide +kernel)]; kernel_rfl) | (rw [if_neg (by decide +kernel)]; exact ⟨rfl, rfl⟩))
    (fun os started H enc _ => lifted os started H enc)

end Go.Proofs.Ybulkcci
