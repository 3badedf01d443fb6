/-
  has, Codec.Service, zzs0150bsvc, listServices, has[Service], without, allowed, forwarding, signalForwardingOf, forward: BY THEIR CONTRACTS.
-/
import Derived.Test.YbulkcbuLists
import Derived.BigQuiet
import Derived.Deep.RegionHeld3
import Derived.LoopN
namespace Go.Proofs.Ybulkcbu
open Go.RowKit

/-- The service of a codec. -/
def svc (c : Nat) : Nat := if c = 12 then 2 else 1

theorem svc_any (c : Nat) (w : World) : Calls Yba.prog 25 #[.int .u8 (c : Int)] w fun e w' => e = .returned (.int .u8 (svc c : Nat)) ∧ w' = w := by
  by_cases h : c = 12
  · subst h
    go_enter Yba.func25, Yba.ntmps25
    go_wp2
    go_ret
    exact ⟨rfl, rfl⟩
  · have h1 : (((c : Nat) : Int) == 12) = false := by simp; omega
    have h2 : svc c = 1 := by simp [svc, h]
    rw [h2]
    go_enter Yba.func25, Yba.ntmps25
    go_wp2
    go_ret
    exact ⟨rfl, rfl⟩

theorem zsvc_any (c : Nat) (w : World) : Calls Yba.prog 6 #[.int .u8 (c : Int)] w fun e w' => e = .returned (.int .u8 (svc c : Nat)) ∧ w' = w := by
  by_cases h : c = 12
  · subst h
    go_enter Yba.func6, Yba.ntmps6
    go_wp2
    go_ret
    exact ⟨rfl, rfl⟩
  · have h1 : (((c : Nat) : Int) == 12) = false := by simp; omega
    have h2 : svc c = 1 := by simp [svc, h]
    rw [h2]
    go_enter Yba.func6, Yba.ntmps6
    go_wp2
    go_ret
    exact ⟨rfl, rfl⟩

/-- has: whether v is among the list's values. -/
def hasB (l : List Nat) (v : Nat) : Bool := l.contains v

theorem hasB_no {l : List Nat} {v : Nat} (h : ∀ i (hi : i < l.length), l[i] ≠ v) : hasB l v = false := by
  unfold hasB
  rw [List.contains_eq_mem, decide_eq_false_iff_not, List.mem_iff_getElem]
  rintro ⟨i, hi, e⟩
  exact h i hi e
theorem hasB_yes {l : List Nat} {v : Nat} {i : Nat} (hi : i < l.length) (h : l[i] = v) : hasB l v = true := by
  unfold hasB
  rw [List.contains_eq_mem, decide_eq_true_eq, List.mem_iff_getElem]
  exact ⟨i, hi, h⟩

set_option maxHeartbeats 800000 in
theorem has_any (l : List Nat) (hl : Fits l) (v : Nat) (w : World) :
    Calls Yba.prog 11 #[L l, .int .u8 (v : Int)] w fun e w' => e = .returned (.bool (hasB l v)) ∧ Below w.heap.size w w' := by
  have hl15 := hl.2
  go_enter Yba.func11, Yba.ntmps11
  go_wp2_with (go_at_call 8; refine (lenS l hl _).mono ?_; rintro e w1 ⟨rfl, rfl⟩)
  go_loopw [8] (fun i wr => ∃ k : Nat, k ≤ l.length ∧ i = .int .i64 k ∧ Hid (∀ i (hi : i < l.length), i < k → l[i] ≠ v) ∧ wr.cell? ⟨w.heap.size, 0, none⟩ = some (.int .u64 (pk l : Nat)) ∧ w.heap.size < wr.heap.size ∧ Below w.heap.size w wr) (fun i _ => l.length - (intOf i).toNat)
  case atStart => exact ⟨0, Nat.zero_le _, rfl, fun i _ h => absurd h (by omega), by go_simp, by simp; omega, ((Below.refl _ _).alloc (Nat.le_refl _) _).alloc (by simp) _⟩
  case round =>
    obtain ⟨k, hk, rfl, HK, hc, hsz, hB⟩ := hrel
    by_cases hlt : k < l.length
    · by_cases heq : l[k] = v
      · have hres := hasB_yes hlt heq
        have h3 : (((l[k] : Nat) : Int) == (v : Int)) = true := by simp [heq]
        clear heq
        go_wp2_with (go_at_call 18; refine (atS l hl k hlt _).mono ?_; rintro e w2 ⟨rfl, rfl⟩)
        go_ret
        exact ⟨by rw [hres]; rfl, hB.alloc (by omega) _⟩
      · have h3 : (((l[k] : Nat) : Int) == (v : Int)) = false := by simp; omega
        have HK2 : Hid (∀ i (hi : i < l.length), i < k + 1 → l[i] ≠ v) := fun i hi hik => by
          rcases Nat.lt_or_ge i k with h | h
          · exact HK.out i hi h
          · obtain rfl : i = k := by omega
            exact heq
        clear heq
        go_wp2_with (go_at_call 18; refine (atS l hl k hlt _).mono ?_; rintro e w2 ⟨rfl, rfl⟩)
        go_roundw
        case rel => exact ⟨k + 1, by omega, by go_num, HK2, by go_simp, by simp; omega, hB.alloc (by omega) _⟩
        case measure => simp [intOf]; omega
    · have hres : hasB l v = false := hasB_no (fun i hi => HK.out i hi (by omega))
      go_wp2
      go_ret
      exact ⟨by rw [hres]; rfl, hB⟩

/-- The services of a codec list, in the order of their first codec. -/
def stepS (acc : List Nat) (c : Nat) : List Nat := if hasB acc (svc c) then acc else acc ++ [svc c]
def svcsOf (cs : List Nat) : List Nat := cs.foldl stepS []

theorem svcsOf_snoc (cs : List Nat) (c : Nat) : svcsOf (cs ++ [c]) = stepS (svcsOf cs) c := by simp [svcsOf]

def Five (l : List Nat) : Prop := l = [] ∨ l = [1] ∨ l = [2] ∨ l = [1, 2] ∨ l = [2, 1]
theorem svc_12 (c : Nat) : svc c = 1 ∨ svc c = 2 := by unfold svc; split <;> simp
theorem five_step (acc : List Nat) (c : Nat) (h : Five acc) : Five (stepS acc c) := by
  unfold stepS Five
  rcases svc_12 c with e | e <;> rw [e] <;> rcases h with rfl | rfl | rfl | rfl | rfl <;> decide
theorem five_fold (cs acc : List Nat) (h : Five acc) : Five (cs.foldl stepS acc) := by
  induction cs generalizing acc with
  | nil => exact h
  | cons c cs ih => exact ih _ (five_step acc c h)
theorem svcsOf_five (cs : List Nat) : Five (svcsOf cs) := five_fold cs [] (Or.inl rfl)
theorem Five.fits {l : List Nat} (h : Five l) : Fits l ∧ l.length ≤ 2 := by
  rcases h with rfl | rfl | rfl | rfl | rfl <;> exact ⟨⟨by decide, by decide⟩, by decide⟩

/-- THE CALL's OWN VARIABLES, a block of one cell each, from block 'w.heap.size' on. -/
structure Loc (w wr : World) (cs : List Value) : Prop where
  cell : ∀ i v, cs[i]? = some v → wr.cell? ⟨w.heap.size + i, 0, none⟩ = some v ∧ wr.frozen? ⟨w.heap.size + i, 0, none⟩ = false
  sz : w.heap.size + cs.length ≤ wr.heap.size
  low : Below w.heap.size w wr

theorem Loc.on {w wr w2 : World} {cs : List Value} (h : Loc w wr cs) (hb : Below wr.heap.size wr w2) : Loc w w2 cs := by
  have hs := h.sz
  refine ⟨fun i v hi => ?_, Nat.le_trans h.sz hb.size, h.low.trans (hb.mono (by omega))⟩
  have hlt : i < cs.length := (List.getElem?_eq_some_iff.1 hi).1
  have := h.cell i v hi
  have hlt2 : w.heap.size + i < wr.heap.size := by omega
  exact ⟨(hb.cell (p := ⟨w.heap.size + i, 0, none⟩) hlt2).trans this.1, (hb.frozen (p := ⟨w.heap.size + i, 0, none⟩) hlt2).trans this.2⟩
theorem Loc.nil (w : World) : Loc w w [] := ⟨fun i v h => by simp at h, by simp, Below.refl _ _⟩
theorem Loc.push {w wr : World} {cs : List Value} {v : Value} {t : TypeId} (h : Loc w wr cs) (hs : wr.heap.size = w.heap.size + cs.length) : Loc w (wr.alloc (.cells #[v] t)) (cs ++ [v]) := by
  have ho := h.on ((Below.refl wr.heap.size wr).alloc (Nat.le_refl _) (.cells #[v] t))
  refine ⟨fun i u hi => ?_, by simp; omega, ho.low⟩
  rcases Nat.lt_or_ge i cs.length with hlt | hge
  · rw [List.getElem?_append_left hlt] at hi
    exact ho.cell i u hi
  · have hi' : i = cs.length := by have := (List.getElem?_eq_some_iff.1 hi).1; simp at this; omega
    subst hi'
    have hu : u = v := by simpa using hi.symm
    subst hu
    rw [← hs]
    exact ⟨by simp, by simp⟩
theorem Loc.drew {w wr : World} {cs : List Value} (h : Loc w wr cs) : Loc w wr.drew cs := ⟨h.cell, h.sz, h.low.drew⟩
theorem Loc.set {w wr w2 : World} {cs : List Value} {j : Nat} {u : Value} (h : Loc w wr cs) (hj : j < cs.length) (hg : wr.grownBy w2 (some (w.heap.size + j))) (hc : w2.cell? ⟨w.heap.size + j, 0, none⟩ = some u) (hf : w2.frozen? ⟨w.heap.size + j, 0, none⟩ = false) : Loc w w2 (cs.set j u) := by
  have hs := h.sz
  refine ⟨fun i v hi => ?_, by rw [List.length_set]; exact Nat.le_trans h.sz hg.size, h.low.grown hg (by omega) (fun k hk => by cases hk; omega)⟩
  by_cases e : j = i
  · subst e
    rw [List.getElem?_set_self hj] at hi
    cases hi
    exact ⟨hc, hf⟩
  · rw [List.getElem?_set_ne e] at hi
    have hlt : i < cs.length := (List.getElem?_eq_some_iff.1 hi).1
    have := h.cell i v hi
    have hbk : w2.heap[w.heap.size + i]? = wr.heap[w.heap.size + i]? := hg.block _ (by omega) (by simp; omega)
    exact ⟨(World.cell?_of_block (a := ⟨w.heap.size + i, 0, none⟩) hbk).trans this.1, (World.frozen?_of_block (a := ⟨w.heap.size + i, 0, none⟩) hbk).trans this.2⟩

theorem svcs_zero (cs : List Nat) : pk (svcsOf (cs.take 0)) = 0 := by simp [svcsOf, pk, body]

set_option maxHeartbeats 1000000 in
theorem listServices_any (cs : List Nat) (hl : Fits cs) (w : World) :
    Calls Yba.prog 14 #[L cs] w fun e w' => e = .returned (L (svcsOf cs)) ∧ Below w.heap.size w w' := by
  have hl15 := hl.2
  go_enter Yba.func14, Yba.ntmps14
  go_wp2_with (go_at_call 23; refine (lenC cs hl _).mono ?_; rintro e w1 ⟨rfl, rfl⟩)
  have H0 : Loc w (((w.alloc (.cells #[.int .u64 (pk cs : Nat)] 26)).alloc (.cells #[.int .u64 0] 73)).alloc (.cells #[.int .u64 0] 73)) [.int .u64 (pk cs : Nat), .int .u64 0, .int .u64 0] := (((Loc.nil w).push rfl).push (by simp)).push (by simp)
  go_loopw [8] (fun i wr => ∃ k : Nat, k ≤ cs.length ∧ i = .int .i64 k ∧ Loc w wr [.int .u64 (pk cs : Nat), .int .u64 0, .int .u64 (pk (svcsOf (cs.take k)) : Nat)]) (fun i _ => cs.length - (intOf i).toNat)
  case atStart => exact ⟨0, Nat.zero_le _, rfl, by rw [svcs_zero]; exact H0.on ((Below.refl _ _).alloc (Nat.le_refl _) _)⟩
  case round =>
    clear H0
    obtain ⟨k, hk, rfl, hL⟩ := hrel
    have c0 : wr.cell? ⟨w.heap.size, 0, none⟩ = some (.int .u64 (pk cs : Nat)) := (hL.cell 0 _ rfl).1
    have c1 : wr.cell? ⟨w.heap.size + 1, 0, none⟩ = some (.int .u64 0) := (hL.cell 1 _ rfl).1
    have f1 : wr.frozen? ⟨w.heap.size + 1, 0, none⟩ = false := (hL.cell 1 _ rfl).2
    have c2 : wr.cell? ⟨w.heap.size + 1 + 1, 0, none⟩ = some (.int .u64 (pk (svcsOf (cs.take k)) : Nat)) := (hL.cell 2 _ rfl).1
    have hsz : w.heap.size + 3 ≤ wr.heap.size := hL.sz
    have s0 : w.heap.size < wr.heap.size := by omega
    have s1 : w.heap.size + 1 < wr.heap.size := by omega
    have s2 : w.heap.size + 1 + 1 < wr.heap.size := by omega
    by_cases hlt : k < cs.length
    · have h5 := svcsOf_five (cs.take k)
      have hsn : Hid (svcsOf (cs.take (k + 1)) = stepS (svcsOf (cs.take k)) cs[k]) := by
        rw [List.take_succ_eq_append_getElem hlt]; exact svcsOf_snoc _ _
      obtain ⟨s, hs⟩ : ∃ s, s = svcsOf (cs.take k) := ⟨_, rfl⟩
      rw [← hs] at h5 hsn c2 hL
      clear hs
      have hs12 : svc cs[k] < 16 := by rcases svc_12 cs[k] with e | e <;> omega
      have hlen14 : s.length ≤ 14 := by have := h5.fits.2; omega
      cases hh : hasB s (svc cs[k]) with
      | true =>
        have hsn2 : Hid (svcsOf (cs.take (k + 1)) = s) := by have := hsn.out; rw [stepS, hh] at this; exact this
        go_wp2_with (first | (go_at_call 24; refine (atC cs hl k hlt _).mono ?_; rintro e w2 ⟨rfl, rfl⟩) | (go_at_call 25; refine (svc_any _ _).mono ?_; rintro e w2 ⟨rfl, rfl⟩) | (go_at_call 11; refine (has_any s h5.fits.1 (svc cs[k]) _).mono ?_; rintro e w3 ⟨rfl, hb3⟩))
        have hL3 := (hL.on ((Below.refl _ _).alloc (Nat.le_refl _) _)).on hb3
        go_roundw
        case rel => exact ⟨k + 1, by omega, by go_num, by rw [hsn2.out]; exact hL3⟩
        case measure => simp [intOf]; omega
      | false =>
        have hsn2 : Hid (svcsOf (cs.take (k + 1)) = s ++ [svc cs[k]]) := by have := hsn.out; rw [stepS, hh] at this; exact this
        go_wp2_with (first | (go_at_call 24; refine (atC cs hl k hlt _).mono ?_; rintro e w2 ⟨rfl, rfl⟩) | (go_at_call 25; refine (svc_any _ _).mono ?_; rintro e w2 ⟨rfl, rfl⟩) | (go_at_call 11; refine (has_any s h5.fits.1 (svc cs[k]) _).mono ?_; rintro e w3 ⟨rfl, hb3⟩; have hL3 := (hL.on ((Below.refl _ _).alloc (Nat.le_refl _) _)).on hb3) | (go_at_call 22; refine (addS (w.heap.size + 1 + 1) (svc cs[k]) s h5.fits.1 hlen14 hs12 _ (hL3.cell 2 _ rfl).1 (hL3.cell 2 _ rfl).2).mono ?_; rintro e w4 ⟨rfl, hc4, hf4, hg4⟩))
        have hL4 := hL3.set (j := 2) (by simp) hg4 hc4 hf4
        go_roundw
        case rel => exact ⟨k + 1, by omega, by go_num, by rw [hsn2.out]; exact hL4⟩
        case measure => simp [intOf]; omega
    · have hall : Hid (cs.take k = cs) := List.take_of_length_le (by omega)
      rw [hall.out] at c2 hL
      go_wp2
      refine bodyPost_ret (v := L (svcsOf cs)) (by simp [results, Yba.results14, go_sem, c1]) rfl ⟨rfl, ?_⟩
      exact hL.low.setCell (by simp) _

end Go.Proofs.Ybulkcbu
