/-
  'table.LawS0149BRaw': THE WALK.
-/
import Derived.Test.YbulkcbgQuoted
import Derived.Test.YbulkcbgQuotedRaw
import Derived.WalkSmall
import Derived.Lib.AppendStr
import Derived.Deep.RegionWith
namespace Go.Proofs.Ybulkcbg
open Go.RowKit

theorem raw_long (a0 a2 : ByteArray) (a1 : Option Addr) (n cap : Nat) (w : World) (h : (1024 : Int) < (a0.size : Int) ∨ (1024 : Int) < (n : Int) ∨ (1024 : Int) < (a2.size : Int)) :
    Calls Yba.prog 4 #[.string a0, .slice a1 n cap, .string a2] w fun e w' => e = .returned (.bool true) ∧ Below w.heap.size w w' := by
  by_cases h0 : (1024 : Int) < (a0.size : Int)
  · go_enter Yba.func4, Yba.ntmps4
    go_wp2
    go_ret
    exact ⟨rfl, Below.refl _ _⟩
  · by_cases h1 : (1024 : Int) < (n : Int)
    · have d0 : decide ((1024 : Int) < (a0.size : Int)) = false := by simpa using h0
      go_enter Yba.func4, Yba.ntmps4
      go_wp2
      go_ret
      exact ⟨rfl, Below.refl _ _⟩
    · have h2 : (1024 : Int) < (a2.size : Int) := by omega
      have d0 : decide ((1024 : Int) < (a0.size : Int)) = false := by simpa using h0
      have d1 : decide ((1024 : Int) < (n : Int)) = false := by simpa using h1
      go_enter Yba.func4, Yba.ntmps4
      go_wp2
      go_ret
      exact ⟨rfl, Below.refl _ _⟩

/-- What a round leaves: both rows have grown by the token's bytes. -/
theorem rel_tok {w wr w2 w3 : World} {g1 g2 c : Nat} {A B C D A' B' : List Int} {o1 o2 : Obj} (hB : Below w.heap.size w wr) (hg1 : w.heap.size ≤ g1) (hg2 : w.heap.size ≤ g2) (hne : g1 ≠ g2)
    (e1 : A' = A ++ C) (e2 : B' = B ++ D)
    (hgrow1 : (wr.alloc o1).grownBy w2 (some g1)) (hgrow2 : (w2.alloc o2).grownBy w3 (some g2))
    (hr : w2.ownsRow w.heap.size 5 1 (.slice (some ⟨g1, 0, none⟩) (A.length + C.length) c) (A.length + C.length) (A.map (Value.int .u8) ++ C.map (Value.int .u8)))
    (hw : w3.ownsRow w.heap.size 5 1 (.slice (some ⟨g2, 0, none⟩) (B.length + D.length) c) (B.length + D.length) (B.map (Value.int .u8) ++ D.map (Value.int .u8))) :
    w3.ownsRow w.heap.size 5 1 (.slice (some ⟨g1, 0, none⟩) A'.length c) A'.length (A'.map (Value.int .u8)) ∧
    w3.ownsRow w.heap.size 5 1 (.slice (some ⟨g2, 0, none⟩) B'.length c) B'.length (B'.map (Value.int .u8)) ∧ Below w.heap.size w w3 := by
  subst e1 e2
  have hs := hB.size
  have h1 := hgrow1.size
  simp at h1
  have hb2 : Below w.heap.size w w2 := (hB.alloc hs o1).grown hgrow1 (by simp; omega) (fun k hk => by cases hk; exact hg1)
  refine ⟨?_, by simpa using hw, (hb2.alloc (by omega) o2).grown hgrow2 (by simp; omega) (fun k hk => by cases hk; exact hg2)⟩
  have := (hr.alloc o2).kept hgrow2 (Or.inr (by simp [Value.ownBlock, hne]))
  simpa using this

/-- The bytes of a string as numbers; what the buffer holds. -/
def ints (s : ByteArray) : List Int := s.data.toList.map fun b => (b.toNat : Int)
def bufOf (a0 : ByteArray) (A : List Int) (a2 : ByteArray) : List Int := ints a0 ++ A ++ ints a2

theorem ints_length (s : ByteArray) : (ints s).length = s.size := by unfold ints; rw [List.length_map, Array.length_toList]; rfl
theorem strCells_ints (s : ByteArray) : Lib.strCells s = (ints s).map (Value.int .u8) := by simp [Lib.strCells, ints]
theorem bufOf_length (a0 : ByteArray) (A : List Int) (a2 : ByteArray) : (bufOf a0 A a2).length = a0.size + A.length + a2.size := by simp [bufOf, ints_length]; omega
theorem bufOf_at (a0 : ByteArray) (A : List Int) (a2 : ByteArray) (j : Nat) (h : j < A.length) : (bufOf a0 A a2)[a0.size + j]? = some (A.getD j 0) := by
  unfold bufOf
  rw [List.getElem?_append_left (by simp [ints_length]; omega), List.getElem?_append_right (by rw [ints_length]; omega), ints_length, Nat.add_sub_cancel_left, List.getElem?_eq_getElem h]
  simp [List.getD, List.getElem?_eq_getElem h]

theorem buf_extract (a0 : ByteArray) (A : List Int) (a2 : ByteArray) : (strOfNums (bufOf a0 A a2)).extract a0.size (a0.size + A.length) = strOfNums A := by
  apply ByteArray.ext
  apply Array.ext'
  rw [strOfNums_data, ByteArray.data_extract, Array.toList_extract, strOfNums_data]
  simp [bufOf, ints_length]

/-- What the three appends leave, in one form. -/
theorem buf_made {w6 : World} {base : Nat} {v6 : Value} {N : Nat} {L : List Value} {a0 : ByteArray} {A : List Int} {a2 : ByteArray} (h : w6.ownsRow base 5 1 v6 N L)
    (eL : L = Lib.strCells a0 ++ A.map (Value.int .u8) ++ Lib.strCells a2) (hne : v6 ≠ .slice none 0 0) :
    ∃ g c, v6 = .slice (some ⟨g, 0, none⟩) (bufOf a0 A a2).length c ∧ base ≤ g ∧ (bufOf a0 A a2).length ≤ c ∧
      w6.ownsRow base 5 1 (.slice (some ⟨g, 0, none⟩) (bufOf a0 A a2).length c) (bufOf a0 A a2).length ((bufOf a0 A a2).map (Value.int .u8)) := by
  have e : L = (bufOf a0 A a2).map (Value.int .u8) := by rw [eL, strCells_ints, strCells_ints]; simp [bufOf]
  have hN : N = (bufOf a0 A a2).length := by have := h.1; rw [e] at this; simpa using this.symm
  subst hN e
  rcases h.2 with ⟨h', _⟩ | ⟨g, c, cur, h', hb, hg, hnc, _⟩
  · exact absurd h' hne
  · exact ⟨g, c, h', hb, hnc, h' ▸ h⟩

theorem own_shape {w6 : World} {base : Nat} {v6 : Value} {N : Nat} {L : List Value} (h : w6.ownsRow base 5 1 v6 N L) (hne : v6 ≠ .slice none 0 0) : ∃ g c, v6 = .slice (some ⟨g, 0, none⟩) N c ∧ base ≤ g := by
  rcases h.2 with ⟨h', _⟩ | ⟨g, c, cur, h', hb, _⟩
  · exact absurd h' hne
  · exact ⟨g, c, h', hb⟩

theorem block_ne {g h m c m' c' : Nat} (hne : g < h) : Value.ownBlock (.slice (some ⟨g, 0, none⟩) m c) ≠ Value.ownBlock (.slice (some ⟨h, 0, none⟩) m' c') := by
  simp [Value.ownBlock]; omega

/-- 'string(x)', x an owned row of bytes. -/
theorem conv_own {wx : World} {base g c : Nat} {A : List Int} (h : wx.ownsRow base 5 1 (.slice (some ⟨g, 0, none⟩) A.length c) A.length (A.map (Value.int .u8))) :
    (convert 24 9 (.slice (some ⟨g, 0, none⟩) A.length c)).run Yba.prog wx = .ok (.string (strOfNums A)) wx :=
  run_convert_bytes_arg (P := Yba.prog) wx 24 5 Yba.underlying24 Yba.underlying5 g 0 A.length c A rfl (fun i hi => by
    rw [Nat.zero_add, h.cellAt i (by omega)]
    simp [List.getElem?_eq_getElem hi, List.getD]) 9 Yba.underlying9

theorem own_below {w7 wx : World} {base : Nat} {v : Value} {n : Nat} {xs : List Value} (h : w7.ownsRow base 5 1 v n xs) (hb : Below w7.heap.size w7 wx) : wx.ownsRow base 5 1 v n xs :=
  h.kept (row := none) ⟨hb.os, hb.tape, hb.output, hb.size, fun k hk _ => hb.block k hk⟩ (by cases v.ownBlock <;> simp)

/-- What holds of the world when the scanner has been boxed. -/
structure Ready (a0 : ByteArray) (A : List Int) (a2 : ByteArray) (V : List Int) (w w7 : World) (n g2 g6 c6 B q : Nat) : Prop where
  cbuf : w7.cell? ⟨q, 1, none⟩ = some (.slice (some ⟨g6, 0, none⟩) (bufOf a0 A a2).length c6)
  ctext : w7.cell? ⟨q, 4, none⟩ = some (.string (strOfNums (bufOf a0 A a2)))
  raw : w7.ownsRow w.heap.size 5 1 (.slice (some ⟨w.heap.size, 0, none⟩) A.length (2 * n)) A.length (A.map (Value.int .u8))
  want : w7.ownsRow w.heap.size 5 1 (.slice (some ⟨g2, 0, none⟩) V.length (2 * n)) V.length (V.map (Value.int .u8))
  buf : w7.ownsRow B 5 1 (.slice (some ⟨g6, 0, none⟩) (bufOf a0 A a2).length c6) (bufOf a0 A a2).length ((bufOf a0 A a2).map (Value.int .u8))
  low : Below w.heap.size w w7
  blk : q < w7.heap.size

theorem Ready.drew {a0 : ByteArray} {A : List Int} {a2 : ByteArray} {V : List Int} {w w7 : World} {n g2 g6 c6 B q : Nat} (h : Ready a0 A a2 V w w7 n g2 g6 c6 B q) : Ready a0 A a2 V w w7.drew n g2 g6 c6 B q :=
  ⟨h.cbuf, h.ctext, h.raw, h.want, h.buf, h.low.drew, h.blk⟩
theorem Ready.on {a0 : ByteArray} {A : List Int} {a2 : ByteArray} {V : List Int} {w w7 w8 : World} {n g2 g6 c6 B q : Nat} (h : Ready a0 A a2 V w w7 n g2 g6 c6 B q) (hb : Below w7.heap.size w7 w8) : Ready a0 A a2 V w w8 n g2 g6 c6 B q :=
  ⟨(hb.cell (p := ⟨q, 1, none⟩) h.blk).trans h.cbuf, (hb.cell (p := ⟨q, 4, none⟩) h.blk).trans h.ctext, own_below h.raw hb, own_below h.want hb, own_below h.buf hb, h.low.trans (hb.mono h.low.size), Nat.lt_of_lt_of_le h.blk hb.size⟩
theorem Ready.byteAt {a0 : ByteArray} {A : List Int} {a2 : ByteArray} {V : List Int} {w w7 : World} {n g2 g6 c6 B q : Nat} (h : Ready a0 A a2 V w w7 n g2 g6 c6 B q) (j : Nat) (hj : j < A.length) : w7.cell? ⟨g6, a0.size + j, none⟩ = some (.int .u8 (A.getD j 0)) := by
  rw [h.buf.cellAt (a0.size + j) (by rw [bufOf_length]; omega), List.getElem?_map, bufOf_at a0 A a2 j hj]; rfl

theorem raw_facts (a0 : ByteArray) (A : List Int) (a2 : ByteArray) (V : List Int) (w w6 : World) (n g2 g6 c6 B : Nat)
    (hR : w6.ownsRow w.heap.size 5 1 (.slice (some ⟨w.heap.size, 0, none⟩) A.length (2 * n)) A.length (A.map (Value.int .u8)))
    (hW : w6.ownsRow w.heap.size 5 1 (.slice (some ⟨g2, 0, none⟩) V.length (2 * n)) V.length (V.map (Value.int .u8)))
    (hX : w6.ownsRow B 5 1 (.slice (some ⟨g6, 0, none⟩) (bufOf a0 A a2).length c6) (bufOf a0 A a2).length ((bufOf a0 A a2).map (Value.int .u8)))
    (hB : Below w.heap.size w w6) :
    Ready a0 A a2 V w (w6.alloc (.cells #[.nilIface, .slice (some ⟨g6, 0, none⟩) (bufOf a0 A a2).length c6, .int .i64 0, .int .i64 0, .string (strOfNums (bufOf a0 A a2)), .int .i64 1, .nilIface, .int .i64 0, .slice none 0 0] 31)) n g2 g6 c6 B w6.heap.size :=
  ⟨by simp, by simp, hR.alloc _, hW.alloc _, hX.alloc _, hB.alloc hB.size _, by simp⟩

set_option maxRecDepth 100000 in
set_option maxHeartbeats 4000000 in
theorem raw_short (a0 a2 : ByteArray) (a1 : Option Addr) (cap : Nat) (toks : List Int) (w : World) (h0 : (a0.size : Int) ≤ 1024) (h1 : (toks.length : Int) ≤ 1024) (h2 : (a2.size : Int) ≤ 1024)
    (hb : ∀ z ∈ toks, 0 ≤ z ∧ z ≤ 255)
    (hcell : ∀ j, j < toks.length → ∃ b off, a1 = some ⟨b, off, none⟩ ∧ b < w.heap.size ∧ w.cell? ⟨b, off + j, none⟩ = some (.int .u8 (toks.getD j 0))) :
    Calls Yba.prog 4 #[.string a0, .slice a1 toks.length cap, .string a2] w fun e w' => e = .returned (.bool true) ∧ Below w.heap.size w w' := by
  obtain ⟨i0, hi, hz0, hz1, hz2⟩ := info_parts info5
  have d0 : decide ((1024 : Int) < (a0.size : Int)) = false := by simp; omega
  have d1 : decide ((1024 : Int) < (toks.length : Int)) = false := by simp; omega
  have d2 : decide ((1024 : Int) < (a2.size : Int)) = false := by simp; omega
  obtain ⟨n, hn⟩ : ∃ n, n = toks.length := ⟨_, rfl⟩
  have HN : Hid (n = toks.length) := hn
  have HC : Hid (∀ j, j < n → ∃ b off, a1 = some ⟨b, off, none⟩ ∧ b < w.heap.size ∧ w.cell? ⟨b, off + j, none⟩ = some (.int .u8 (toks.getD j 0))) := by rw [hn]; exact hcell
  have HB : Hid (∀ z ∈ toks, 0 ≤ z ∧ z ≤ 255) := hb
  rw [← hn] at d1 h1 ⊢
  clear hn hcell hb
  go_enter Yba.func4, Yba.ntmps4
  go_wp2_with (first
    | (at_make; refine wpList_make_own _ rfl _ (.tmp 30) 24 rfl w.heap.size 5 i0 (.int .u8 0) 1 Yba.underlying24 hi hz0 hz1 .i64 .i64 _ (2 * n) rfl rfl (by omega) (by rw [hz2]; omega) (by unfold maxLen; omega) (Nat.le_refl _) ?_; intro w1 hown1 hgrow1; have hs1 := hgrow1.size; have hl1 := (hown1.lt _ rfl).2)
    | (at_make; refine wpList_make_own _ rfl _ (.tmp 34) 24 rfl w.heap.size 5 i0 (.int .u8 0) 1 Yba.underlying24 hi hz0 hz1 .i64 .i64 _ (2 * n) rfl rfl (by omega) (by rw [hz2]; omega) (by unfold maxLen; omega) (by assumption) ?_; intro w2 hown2 hgrow2))
  have hB2 : Below w.heap.size w w2 := ((Below.refl _ _).grown hgrow1 (Nat.le_refl _) (fun k hk => by cases hk)).grown hgrow2 hs1 (fun k hk => by cases hk)
  have hown1' := hown1.kept hgrow2 (Or.inr (by simp [Value.ownBlock]))
  have hs2 := hgrow2.size
  have hl2 := (hown2.lt _ rfl).2
  clear hown1 hgrow1 hgrow2
  generalize w1.heap.size = g2 at *
  go_loopw [7, 8, 38] (fun v u i wr => ∃ k : Nat, k ≤ n ∧ i = .int .i64 k ∧ v = .slice (some ⟨w.heap.size, 0, none⟩) (rawOf (toks.take k)).length (2 * n) ∧ u = .slice (some ⟨g2, 0, none⟩) (wantOf (toks.take k)).length (2 * n) ∧
      wr.ownsRow w.heap.size 5 1 (.slice (some ⟨w.heap.size, 0, none⟩) (rawOf (toks.take k)).length (2 * n)) (rawOf (toks.take k)).length ((rawOf (toks.take k)).map (Value.int .u8)) ∧
      wr.ownsRow w.heap.size 5 1 (.slice (some ⟨g2, 0, none⟩) (wantOf (toks.take k)).length (2 * n)) (wantOf (toks.take k)).length ((wantOf (toks.take k)).map (Value.int .u8)) ∧ Below w.heap.size w wr) (fun _ _ i _ => n - (intOf i).toNat)
  case atStart => exact ⟨0, Nat.zero_le _, rfl, rfl, rfl, hown1', hown2, hB2⟩
  case round =>
    clear hown1' hown2 hB2
    obtain ⟨k, hk, rfl, rfl, rfl, hownR, hownW, hB⟩ := hrel
    have hsz := hB.size
    by_cases hlt : k < n
    · have hkt : k < toks.length := by rw [← HN.out]; exact hlt
      have hz := HB.out toks[k] (List.getElem_mem _)
      obtain ⟨b, off, rfl, hbl, hc0⟩ := HC.out k hlt
      have hc1 : wr.cell? ⟨b, off + k, none⟩ = some (.int .u8 toks[k]) := by
        rw [hB.cell (p := ⟨b, off + k, none⟩) hbl, hc0]; simp [List.getD, List.getElem?_eq_getElem hkt]
      have HE1 : Hid (rawOf (toks.take (k + 1)) = rawOf (toks.take k) ++ tokRaw (toks[k] % 6)) := rawOf_snoc toks k hkt
      have HE2 : Hid (wantOf (toks.take (k + 1)) = wantOf (toks.take k) ++ tokWant (toks[k] % 6)) := wantOf_snoc toks k hkt
      have hA := rawOf_len (toks.take k)
      have hW := wantOf_len (toks.take k)
      rw [List.length_take, Nat.min_eq_left (by omega)] at hA hW
      clear hc0
      generalize toks[k] = z at hz hc1 HE1 HE2
      generalize rawOf (toks.take k) = A at hA HE1 hownR ⊢
      generalize wantOf (toks.take k) = C at hW HE2 hownW ⊢
      rcases (show z % 6 = 0 ∨ z % 6 = 1 ∨ z % 6 = 2 ∨ z % 6 = 3 ∨ z % 6 = 4 ∨ z % 6 = 5 by omega) with hr | hr | hr | hr | hr | hr
      · have F1 : Hid (rawOf (toks.take (k + 1)) = A ++ [97]) := by rw [hr] at HE1; exact HE1.out
        have F2 : Hid (wantOf (toks.take (k + 1)) = C ++ [97]) := by rw [hr] at HE2; exact HE2.out
        clear HE1 HE2
        go_wp2_with (first
          | (at_builtin; refine wpList_append_fits _ rfl (.tmp 52) (.tmp 53) 24 rfl w.heap.size 5 i0 1 Yba.underlying24 hi hz1 w.heap.size A.length (2 * n) _ rfl (hownR.alloc _) ⟨wr.heap.size, 0, none⟩ 1 1 [.int .u8 97] rfl rfl (cell_one_new _ _ _) (ints_oneCell .u8 [97]) (by omega) ?_; intro w3 hown3 hgrow3)
          | (at_builtin; refine wpList_append_fits _ rfl (.tmp 55) (.tmp 56) 24 rfl w.heap.size 5 i0 1 Yba.underlying24 hi hz1 g2 C.length (2 * n) _ rfl (((hownW.alloc _).kept hgrow3 (Or.inr (by simp [Value.ownBlock]; omega))).alloc _) ⟨w3.heap.size, 0, none⟩ 1 1 [.int .u8 97] rfl rfl (cell_one_new _ _ _) (ints_oneCell .u8 [97]) (by omega) ?_; intro w4 hown4 hgrow4))
        have R := rel_tok hB (Nat.le_refl _) (by omega) (by omega) F1.out F2.out hgrow3 hgrow4 hown3 hown4
        go_roundw
        case rel => exact ⟨k + 1, by omega, by go_num, by rw [F1.out]; simp, by rw [F2.out]; simp, R.1, R.2.1, R.2.2⟩
        case measure => simp [intOf]; omega
      · have F1 : Hid (rawOf (toks.take (k + 1)) = A ++ [44]) := by rw [hr] at HE1; exact HE1.out
        have F2 : Hid (wantOf (toks.take (k + 1)) = C ++ [44]) := by rw [hr] at HE2; exact HE2.out
        clear HE1 HE2
        go_wp2_with (first
          | (at_builtin; refine wpList_append_fits _ rfl (.tmp 60) (.tmp 61) 24 rfl w.heap.size 5 i0 1 Yba.underlying24 hi hz1 w.heap.size A.length (2 * n) _ rfl (hownR.alloc _) ⟨wr.heap.size, 0, none⟩ 1 1 [.int .u8 44] rfl rfl (cell_one_new _ _ _) (ints_oneCell .u8 [44]) (by omega) ?_; intro w3 hown3 hgrow3)
          | (at_builtin; refine wpList_append_fits _ rfl (.tmp 63) (.tmp 64) 24 rfl w.heap.size 5 i0 1 Yba.underlying24 hi hz1 g2 C.length (2 * n) _ rfl (((hownW.alloc _).kept hgrow3 (Or.inr (by simp [Value.ownBlock]; omega))).alloc _) ⟨w3.heap.size, 0, none⟩ 1 1 [.int .u8 44] rfl rfl (cell_one_new _ _ _) (ints_oneCell .u8 [44]) (by omega) ?_; intro w4 hown4 hgrow4))
        have R := rel_tok hB (Nat.le_refl _) (by omega) (by omega) F1.out F2.out hgrow3 hgrow4 hown3 hown4
        go_roundw
        case rel => exact ⟨k + 1, by omega, by go_num, by rw [F1.out]; simp, by rw [F2.out]; simp, R.1, R.2.1, R.2.2⟩
        case measure => simp [intOf]; omega
      · have F1 : Hid (rawOf (toks.take (k + 1)) = A ++ [10]) := by rw [hr] at HE1; exact HE1.out
        have F2 : Hid (wantOf (toks.take (k + 1)) = C ++ [10]) := by rw [hr] at HE2; exact HE2.out
        clear HE1 HE2
        go_wp2_with (first
          | (at_builtin; refine wpList_append_fits _ rfl (.tmp 68) (.tmp 69) 24 rfl w.heap.size 5 i0 1 Yba.underlying24 hi hz1 w.heap.size A.length (2 * n) _ rfl (hownR.alloc _) ⟨wr.heap.size, 0, none⟩ 1 1 [.int .u8 10] rfl rfl (cell_one_new _ _ _) (ints_oneCell .u8 [10]) (by omega) ?_; intro w3 hown3 hgrow3)
          | (at_builtin; refine wpList_append_fits _ rfl (.tmp 71) (.tmp 72) 24 rfl w.heap.size 5 i0 1 Yba.underlying24 hi hz1 g2 C.length (2 * n) _ rfl (((hownW.alloc _).kept hgrow3 (Or.inr (by simp [Value.ownBlock]; omega))).alloc _) ⟨w3.heap.size, 0, none⟩ 1 1 [.int .u8 10] rfl rfl (cell_one_new _ _ _) (ints_oneCell .u8 [10]) (by omega) ?_; intro w4 hown4 hgrow4))
        have R := rel_tok hB (Nat.le_refl _) (by omega) (by omega) F1.out F2.out hgrow3 hgrow4 hown3 hown4
        go_roundw
        case rel => exact ⟨k + 1, by omega, by go_num, by rw [F1.out]; simp, by rw [F2.out]; simp, R.1, R.2.1, R.2.2⟩
        case measure => simp [intOf]; omega
      · have F1 : Hid (rawOf (toks.take (k + 1)) = A ++ [34, 34]) := by rw [hr] at HE1; exact HE1.out
        have F2 : Hid (wantOf (toks.take (k + 1)) = C ++ [34]) := by rw [hr] at HE2; exact HE2.out
        clear HE1 HE2
        go_wp2_with (first
          | (at_builtin; refine wpList_append_fits _ rfl (.tmp 76) (.tmp 77) 24 rfl w.heap.size 5 i0 1 Yba.underlying24 hi hz1 w.heap.size A.length (2 * n) _ rfl (hownR.alloc _) ⟨wr.heap.size, 0, none⟩ 2 2 [.int .u8 34, .int .u8 34] rfl rfl (cell_two_new _ _ _ _) (ints_oneCell .u8 [34, 34]) (by omega) ?_; intro w3 hown3 hgrow3)
          | (at_builtin; refine wpList_append_fits _ rfl (.tmp 79) (.tmp 80) 24 rfl w.heap.size 5 i0 1 Yba.underlying24 hi hz1 g2 C.length (2 * n) _ rfl (((hownW.alloc _).kept hgrow3 (Or.inr (by simp [Value.ownBlock]; omega))).alloc _) ⟨w3.heap.size, 0, none⟩ 1 1 [.int .u8 34] rfl rfl (cell_one_new _ _ _) (ints_oneCell .u8 [34]) (by omega) ?_; intro w4 hown4 hgrow4))
        have R := rel_tok hB (Nat.le_refl _) (by omega) (by omega) F1.out F2.out hgrow3 hgrow4 hown3 hown4
        go_roundw
        case rel => exact ⟨k + 1, by omega, by go_num, by rw [F1.out]; simp, by rw [F2.out]; simp, R.1, R.2.1, R.2.2⟩
        case measure => simp [intOf]; omega
      · have F1 : Hid (rawOf (toks.take (k + 1)) = A ++ [13, 10]) := by rw [hr] at HE1; exact HE1.out
        have F2 : Hid (wantOf (toks.take (k + 1)) = C ++ [10]) := by rw [hr] at HE2; exact HE2.out
        clear HE1 HE2
        go_wp2_with (first
          | (at_builtin; refine wpList_append_fits _ rfl (.tmp 84) (.tmp 85) 24 rfl w.heap.size 5 i0 1 Yba.underlying24 hi hz1 w.heap.size A.length (2 * n) _ rfl (hownR.alloc _) ⟨wr.heap.size, 0, none⟩ 2 2 [.int .u8 13, .int .u8 10] rfl rfl (cell_two_new _ _ _ _) (ints_oneCell .u8 [13, 10]) (by omega) ?_; intro w3 hown3 hgrow3)
          | (at_builtin; refine wpList_append_fits _ rfl (.tmp 87) (.tmp 88) 24 rfl w.heap.size 5 i0 1 Yba.underlying24 hi hz1 g2 C.length (2 * n) _ rfl (((hownW.alloc _).kept hgrow3 (Or.inr (by simp [Value.ownBlock]; omega))).alloc _) ⟨w3.heap.size, 0, none⟩ 1 1 [.int .u8 10] rfl rfl (cell_one_new _ _ _) (ints_oneCell .u8 [10]) (by omega) ?_; intro w4 hown4 hgrow4))
        have R := rel_tok hB (Nat.le_refl _) (by omega) (by omega) F1.out F2.out hgrow3 hgrow4 hown3 hown4
        go_roundw
        case rel => exact ⟨k + 1, by omega, by go_num, by rw [F1.out]; simp, by rw [F2.out]; simp, R.1, R.2.1, R.2.2⟩
        case measure => simp [intOf]; omega
      · have F1 : Hid (rawOf (toks.take (k + 1)) = A ++ [13, 98]) := by rw [hr] at HE1; exact HE1.out
        have F2 : Hid (wantOf (toks.take (k + 1)) = C ++ [13, 98]) := by rw [hr] at HE2; exact HE2.out
        clear HE1 HE2
        go_wp2_with (first
          | (at_builtin; refine wpList_append_fits _ rfl (.tmp 44) (.tmp 45) 24 rfl w.heap.size 5 i0 1 Yba.underlying24 hi hz1 w.heap.size A.length (2 * n) _ rfl (hownR.alloc _) ⟨wr.heap.size, 0, none⟩ 2 2 [.int .u8 13, .int .u8 98] rfl rfl (cell_two_new _ _ _ _) (ints_oneCell .u8 [13, 98]) (by omega) ?_; intro w3 hown3 hgrow3)
          | (at_builtin; refine wpList_append_fits _ rfl (.tmp 47) (.tmp 48) 24 rfl w.heap.size 5 i0 1 Yba.underlying24 hi hz1 g2 C.length (2 * n) _ rfl (((hownW.alloc _).kept hgrow3 (Or.inr (by simp [Value.ownBlock]; omega))).alloc _) ⟨w3.heap.size, 0, none⟩ 2 2 [.int .u8 13, .int .u8 98] rfl rfl (cell_two_new _ _ _ _) (ints_oneCell .u8 [13, 98]) (by omega) ?_; intro w4 hown4 hgrow4))
        have R := rel_tok hB (Nat.le_refl _) (by omega) (by omega) F1.out F2.out hgrow3 hgrow4 hown3 hown4
        go_roundw
        case rel => exact ⟨k + 1, by omega, by go_num, by rw [F1.out]; simp, by rw [F2.out]; simp, R.1, R.2.1, R.2.2⟩
        case measure => simp [intOf]; omega
    · have hA := rawOf_len (toks.take k)
      have hV := wantOf_len (toks.take k)
      have hkl : (toks.take k).length ≤ k := List.length_take_le _ _
      have HU : Hid (unqL (rawOf (toks.take k)) = some (wantOf (toks.take k))) := unqL_raw _
      have hA' : (rawOf (toks.take k)).length ≤ 2048 := by omega
      have hV' : (wantOf (toks.take k)).length ≤ 2048 := by omega
      clear hA hV hkl
      generalize rawOf (toks.take k) = A at hA' HU hownR ⊢
      generalize wantOf (toks.take k) = V at hV' HU hownW ⊢
      have hl1' : w.heap.size < wr.heap.size := (hownR.lt _ rfl).2
      have hl2' : g2 < wr.heap.size := (hownW.lt _ rfl).2
      go_wp2_with (first
        | (at_make; refine wpList_make_own _ rfl _ (.tmp 98) 24 rfl wr.heap.size 5 i0 (.int .u8 0) 1 Yba.underlying24 hi hz0 hz1 .i64 .i64 _ (a0.size + A.length + a2.size) rfl rfl (by omega) (by rw [hz2]; omega) (by unfold maxLen; omega) (Nat.le_refl _) ?_; intro w3 hown3 hgrow3)
        | (at_builtin; refine Lib.wpList_append_own_string _ rfl (.tmp 100) (.tmp 101) 24 9 rfl wr.heap.size 5 i0 Yba.underlying24 Yba.underlying9 hi hz0 hz1 hz2 _ _ _ rfl hown3 a0 rfl (by unfold maxLen; omega) (by omega) hgrow3.size ?_; intro v4 w4 hown4 hgrow4 hnil4)
        | (at_builtin; refine wpList_append_own _ rfl (.tmp 103) (.tmp 104) 24 rfl wr.heap.size 5 i0 (.int .u8 0) 1 1 Yba.underlying24 hi hz0 hz1 hz2 rfl (by decide) v4 _ _ rfl hown4 ⟨w.heap.size, 0, none⟩ A.length (2 * n) (A.map (Value.int .u8)) rfl (by simp) (((hownR.kept hgrow3 (Or.inr (by simp [Value.ownBlock]))).kept hgrow4 (Or.inr (block_ne hl1'))).cells rfl) (ints_oneCell .u8 A) (by unfold maxLen; omega) (by omega) (Nat.le_trans hgrow3.size hgrow4.size) ?_; intro v5 w5 hown5 hgrow5 hnil5)
        | (at_builtin; refine Lib.wpList_append_own_string _ rfl (.tmp 106) (.tmp 107) 24 9 rfl wr.heap.size 5 i0 Yba.underlying24 Yba.underlying9 hi hz0 hz1 hz2 _ _ _ rfl hown5 a2 rfl (by unfold maxLen; omega) (by omega) (Nat.le_trans (Nat.le_trans hgrow3.size hgrow4.size) hgrow5.size) ?_; intro v6 w6 hown6 hgrow6 hnil6; obtain ⟨g6, c6, hv6, hb6, hc6, hown6'⟩ := buf_made hown6 rfl (fun h => by have h4 := (hnil4.1 (hnil5.1 (hnil6.1 h).1).1).1; cases h4); have hcv6 := conv_own hown6'; rw [hv6]))
      have hsz3 := hgrow3.size
      have hsz4 := hgrow4.size
      have hsz5 := hgrow5.size
      have hsz6 := hgrow6.size
      obtain ⟨g4, c4, hv4, hb4⟩ := own_shape hown4 (fun h => by have h4 := (hnil4.1 h).1; cases h4)
      obtain ⟨g5, c5, hv5, hb5⟩ := own_shape hown5 (fun h => by have h4 := (hnil4.1 (hnil5.1 h).1).1; cases h4)
      subst hv4 hv5
      have hR6 := (((hownR.kept hgrow3 (Or.inr (by simp [Value.ownBlock]))).kept hgrow4 (Or.inr (block_ne hl1'))).kept hgrow5 (Or.inr (block_ne (Nat.lt_of_lt_of_le hl1' hb4)))).kept hgrow6 (Or.inr (block_ne (Nat.lt_of_lt_of_le hl1' hb5)))
      have hW6 := (((hownW.kept hgrow3 (Or.inr (by simp [Value.ownBlock]))).kept hgrow4 (Or.inr (block_ne hl2'))).kept hgrow5 (Or.inr (block_ne (Nat.lt_of_lt_of_le hl2' hb4)))).kept hgrow6 (Or.inr (block_ne (Nat.lt_of_lt_of_le hl2' hb5)))
      have hB6 : Below w.heap.size w w6 := (((hB.grown hgrow3 hsz (fun k hk => by cases hk)).grown hgrow4 (by omega) (fun k hk => by cases hk; exact hsz)).grown hgrow5 (by omega) (fun k hk => by cases hk; exact Nat.le_trans hsz hb4)).grown hgrow6 (by omega) (fun k hk => by cases hk; exact Nat.le_trans hsz hb5)
      have hX6 := hown6'
      clear hown6' hown6 hgrow6 hnil6 hown5 hgrow5 hnil5 hown4 hgrow4 hnil4 hown3 hgrow3 hcv6 hownR hownW hB hv6 hb4 hb5
      have hg6 : g6 < w6.heap.size := (hX6.lt _ rfl).2
      have hfin := raw_facts a0 A a2 V w w6 n g2 g6 c6 wr.heap.size hR6 hW6 hX6 hB6
      clear hR6 hW6 hX6 hB6
      generalize w6.alloc (.cells #[.nilIface, .slice (some ⟨g6, 0, none⟩) (bufOf a0 A a2).length c6, .int .i64 0, .int .i64 0, .string (strOfNums (bufOf a0 A a2)), .int .i64 1, .nilIface, .int .i64 0, .slice none 0 0] 31) = w7 at hfin ⊢
      generalize w6.heap.size = q at hfin hg6 ⊢
      have hlen : a0.size + A.length ≤ (bufOf a0 A a2).length := by rw [bufOf_length]; omega
      have hg6' : g6 < w7.heap.size := (hfin.buf.lt _ rfl).2
      have hcw := conv_own hfin.drew.want
      have hA4 : A.length ≤ 4096 := by omega
      go_region_with (go_at_call 5; refine (quoted_raw q g6 (bufOf a0 A a2).length c6 a0.size _ A V _ hA4 hlen hc6 rfl HU.out (by exact hfin.cbuf) (by exact hg6') (by exact hfin.byteAt)).mono ?_; rintro e w8 ⟨rfl, hb8⟩; have hfin8 := hfin.drew.on hb8; have hcw8 := conv_own hfin8.want)
      all_goals
        have hcr := conv_own hfin8.drew.raw
        have hsx : ((a0.size : Int) + (A.length : Int)) ≤ ((strOfNums (bufOf a0 A a2)).size : Int) := by rw [strOfNums_size]; omega
        have hext : Hid ((strOfNums (bufOf a0 A a2)).extract (a0.size : Int).toNat ((a0.size : Int) + (A.length : Int)).toNat = strOfNums A) := by
          rw [show (a0.size : Int).toNat = a0.size from by omega, show ((a0.size : Int) + (A.length : Int)).toNat = a0.size + A.length from by omega]; exact buf_extract a0 A a2
        go_wp2
        go_region_with (go_at_call 5; refine (quoted_plain q (strOfNums (bufOf a0 A a2)) _ _ _ (by omega) (by omega) hsx (by exact hfin8.ctext)).mono ?_; rintro e w9 ⟨rfl, rfl⟩; rw [hext.out])
      all_goals
        go_wp2
        go_ret
        exact ⟨rfl, hfin8.low.drew⟩

end Go.Proofs.Ybulkcbg
