/-
  THE PACKED LISTS' METHODS BY THEIR CONTRACTS: len, at, add, at both element types.
-/
import Derived.Test.YbulkcbuRows
import Derived.Test.YbulkcbuPack
import Derived.WalkKit
import Derived.WalkSpells
import Derived.WalkLawsBesides
import Derived.Deep.RegionWith
namespace Go.Proofs.Ybulkcbu
open Go.RowKit

/-- A packed list as a value. -/
abbrev L (l : List Nat) : Value := .agg #[.int .u64 (pk l : Nat)]

theorem len_eq {l : List Nat} (h : Fits l) : ((pk l : Nat) : Int) / 1152921504606846976 = (l.length : Int) := by
  have := pk_len h
  omega

theorem at_eq {l : List Nat} (h : Fits l) (i : Nat) (hi : i < l.length) : bits BinOp.and IntKind.u64 (((pk l : Nat) : Int) / 2 ^ ((i : Int) * 4).toNat) 15 % 256 = ((l[i] : Nat) : Int) := by
  have e1 : ((i : Int) * 4).toNat = i * 4 := by omega
  have e2 : (2 : Nat) ^ (i * 4) = 16 ^ i := by rw [Nat.mul_comm, Nat.pow_mul]
  have e3 : (((pk l : Nat) : Int) / 2 ^ (i * 4)) = ((pk l / 16 ^ i : Nat) : Int) := by
    rw [← e2]
    simp
  have hlt : pk l / 16 ^ i < 18446744073709551616 := Nat.lt_of_le_of_lt (Nat.div_le_self _ _) (pk_lt h)
  have hm := u64_and_nat (pk l / 16 ^ i) 15 hlt (by decide)
  rw [nat_mask4, pk_at h i hi] at hm
  rw [e1, e3]
  have h15 : ((15 : Nat) : Int) = 15 := rfl
  rw [h15] at hm
  rw [hm]
  have := h.1 l[i] (List.getElem_mem _)
  omega

theorem add_eq {l : List Nat} {v : Nat} (h : Fits l) (hl : l.length ≤ 14) (hv : v < 16) :
    ∃ q : Nat, bits BinOp.or IntKind.u64 ((pk l : Nat) : Int) ((v : Int) * 2 ^ ((l.length : Int) * 4).toNat) = (q : Int) ∧ q + 1152921504606846976 = pk (l ++ [v]) ∧ (v * 2 ^ (l.length * 4) < 18446744073709551616) := by
  have e1 : ((l.length : Int) * 4).toNat = l.length * 4 := by omega
  have e2 : (2 : Nat) ^ (l.length * 4) = 16 ^ l.length := by rw [Nat.mul_comm, Nat.pow_mul]
  have e3 : (v : Int) * 2 ^ (l.length * 4) = ((v * 2 ^ (l.length * 4) : Nat) : Int) := by simp
  have hfit := pk_lt (h.snoc hl hv)
  rw [pk_snoc] at hfit ⊢
  have hlt : v * 2 ^ (l.length * 4) < 18446744073709551616 := by rw [e2]; omega
  have hm := u64_or_nat (pk l) (v * 2 ^ (l.length * 4)) (pk_lt h) hlt
  rw [pk_or h hl hv] at hm
  rw [e1, e3, hm]
  exact ⟨_, rfl, rfl, hlt⟩

theorem shl_wrap (n v : Nat) (hlt : v * 2 ^ (n * 4) < 18446744073709551616) : IntKind.u64.wrap ((v : Int) * 2 ^ ((n : Int) * 4).toNat) = (v : Int) * 2 ^ ((n : Int) * 4).toNat := by
  have e1 : ((n : Int) * 4).toNat = n * 4 := by omega
  have e3 : (v : Int) * 2 ^ (n * 4) = ((v * 2 ^ (n * 4) : Nat) : Int) := by simp
  rw [e1, e3, IntKind.wrap_u64]
  generalize v * 2 ^ (n * 4) = z at *
  omega

/-- What two stores into one cell and a new block leave. -/
theorem added (w : World) (b : Nat) (x u y : Value) (o : Obj) (hc : w.cell? ⟨b, 0, none⟩ = some y) (hf : w.frozen? ⟨b, 0, none⟩ = false) (hb : b < w.heap.size) :
    (((w.setCell ⟨b, 0, none⟩ x).setCell ⟨b, 0, none⟩ u).alloc o).drew.cell? ⟨b, 0, none⟩ = some u ∧ (((w.setCell ⟨b, 0, none⟩ x).setCell ⟨b, 0, none⟩ u).alloc o).drew.frozen? ⟨b, 0, none⟩ = false ∧
    w.grownBy (((w.setCell ⟨b, 0, none⟩ x).setCell ⟨b, 0, none⟩ u).alloc o).drew (some b) := by
  refine ⟨?_, ?_, rfl, rfl, rfl, ?_, fun k hk hne => ?_⟩
  · go_simp
  · go_simp
  · simp
  · have h1 : k ≠ b := fun e => hne (by rw [e])
    show (((w.setCell ⟨b, 0, none⟩ x).setCell ⟨b, 0, none⟩ u).alloc o).heap[k]? = _
    rw [Below.heap_alloc _ _ _ (by simpa using hk), Below.heap_setCell _ _ _ _ h1, Below.heap_setCell _ _ _ _ h1]


theorem lenC_p (p : Int) (w : World) (h0 : 0 ≤ p) (h1 : p ≤ 18446744073709551615) : Calls Yba.prog 23 #[.agg #[.int .u64 p]] w fun e w' => e = .returned (.int .i64 (p / 1152921504606846976)) ∧ w' = w.alloc (.cells #[.int .u64 p] 26) := by
  go_enter Yba.func23, Yba.ntmps23
  go_wp2
  go_ret
  exact ⟨rfl, rfl⟩

theorem atC_p (p i : Int) (w : World) (hi0 : 0 ≤ i) (hi1 : i ≤ 14) : Calls Yba.prog 24 #[.agg #[.int .u64 p], .int .i64 i] w fun e w' => e = .returned (.int .u8 (bits BinOp.and IntKind.u64 (p / 2 ^ (i * 4).toNat) 15 % 256)) ∧ w' = w.alloc (.cells #[.int .u64 p] 26) := by
  go_enter Yba.func24, Yba.ntmps24
  go_wp2
  go_ret
  exact ⟨rfl, rfl⟩

theorem lenC (l : List Nat) (hl : Fits l) (w : World) : Calls Yba.prog 23 #[L l] w fun e w' => e = .returned (.int .i64 l.length) ∧ w' = w.alloc (.cells #[.int .u64 (pk l : Nat)] 26) := by
  have hp := pk_lt hl
  have h := lenC_p (pk l : Nat) w (by omega) (by omega)
  rwa [len_eq hl] at h

theorem atC (l : List Nat) (hl : Fits l) (i : Nat) (hi : i < l.length) (w : World) : Calls Yba.prog 24 #[L l, .int .i64 i] w fun e w' => e = .returned (.int .u8 ((l[i] : Nat) : Int)) ∧ w' = w.alloc (.cells #[.int .u64 (pk l : Nat)] 26) := by
  have hp := pk_lt hl
  have h := atC_p (pk l : Nat) i w (by omega) (by have := hl.2; omega)
  rwa [at_eq hl i hi] at h

set_option maxHeartbeats 800000 in
theorem addC (b v : Nat) (l : List Nat) (hl : Fits l) (hn : l.length ≤ 14) (hv : v < 16) (w : World) (hc : w.cell? ⟨b, 0, none⟩ = some (.int .u64 (pk l : Nat))) (hf : w.frozen? ⟨b, 0, none⟩ = false) :
    Calls Yba.prog 13 #[.pointer (some ⟨b, 0, none⟩), .int .u8 v] w fun e w' => e = .returned (.tuple #[]) ∧ w'.cell? ⟨b, 0, none⟩ = some (.int .u64 (pk (l ++ [v]) : Nat)) ∧ w'.frozen? ⟨b, 0, none⟩ = false ∧ w.grownBy w' (some b) := by
  obtain ⟨q, hq, hq2, hlt⟩ := add_eq hl hn hv
  have hw4 := shl_wrap l.length v hlt
  have hp2 := pk_lt (hl.snoc hn hv)
  have hw1 : IntKind.u64.wrap (v : Int) = (v : Int) := by rw [IntKind.wrap_u64]; omega
  have hw2 : IntKind.i64.wrap ((l.length : Int) * 4) = (l.length : Int) * 4 := by simp [IntKind.wrap, IntKind.bits, IntKind.signed]; omega
  have hw3 : IntKind.u64.wrap ((q : Int) + 1152921504606846976) = ((pk (l ++ [v]) : Nat) : Int) := by rw [IntKind.wrap_u64]; omega
  clear hq2 hlt
  have hb : b < w.heap.size := World.block_lt_of_cell? _ _ hc
  go_enter Yba.func13, Yba.ntmps13
  go_wp2_with fail
  go_region_with (go_at_call 23; refine (lenC l hl _).mono ?_; rintro e w1 ⟨rfl, rfl⟩)
  all_goals go_wp2
  all_goals (go_end0; exact ⟨rfl, added w b _ _ _ _ hc hf hb⟩)

theorem lenS_p (p : Int) (w : World) (h0 : 0 ≤ p) (h1 : p ≤ 18446744073709551615) : Calls Yba.prog 8 #[.agg #[.int .u64 p]] w fun e w' => e = .returned (.int .i64 (p / 1152921504606846976)) ∧ w' = w.alloc (.cells #[.int .u64 p] 73) := by
  go_enter Yba.func8, Yba.ntmps8
  go_wp2
  go_ret
  exact ⟨rfl, rfl⟩

theorem atS_p (p i : Int) (w : World) (hi0 : 0 ≤ i) (hi1 : i ≤ 14) : Calls Yba.prog 18 #[.agg #[.int .u64 p], .int .i64 i] w fun e w' => e = .returned (.int .u8 (bits BinOp.and IntKind.u64 (p / 2 ^ (i * 4).toNat) 15 % 256)) ∧ w' = w.alloc (.cells #[.int .u64 p] 73) := by
  go_enter Yba.func18, Yba.ntmps18
  go_wp2
  go_ret
  exact ⟨rfl, rfl⟩

theorem lenS (l : List Nat) (hl : Fits l) (w : World) : Calls Yba.prog 8 #[L l] w fun e w' => e = .returned (.int .i64 l.length) ∧ w' = w.alloc (.cells #[.int .u64 (pk l : Nat)] 73) := by
  have hp := pk_lt hl
  have h := lenS_p (pk l : Nat) w (by omega) (by omega)
  rwa [len_eq hl] at h

theorem atS (l : List Nat) (hl : Fits l) (i : Nat) (hi : i < l.length) (w : World) : Calls Yba.prog 18 #[L l, .int .i64 i] w fun e w' => e = .returned (.int .u8 ((l[i] : Nat) : Int)) ∧ w' = w.alloc (.cells #[.int .u64 (pk l : Nat)] 73) := by
  have hp := pk_lt hl
  have h := atS_p (pk l : Nat) i w (by omega) (by have := hl.2; omega)
  rwa [at_eq hl i hi] at h

set_option maxHeartbeats 800000 in
theorem addS (b v : Nat) (l : List Nat) (hl : Fits l) (hn : l.length ≤ 14) (hv : v < 16) (w : World) (hc : w.cell? ⟨b, 0, none⟩ = some (.int .u64 (pk l : Nat))) (hf : w.frozen? ⟨b, 0, none⟩ = false) :
    Calls Yba.prog 22 #[.pointer (some ⟨b, 0, none⟩), .int .u8 v] w fun e w' => e = .returned (.tuple #[]) ∧ w'.cell? ⟨b, 0, none⟩ = some (.int .u64 (pk (l ++ [v]) : Nat)) ∧ w'.frozen? ⟨b, 0, none⟩ = false ∧ w.grownBy w' (some b) := by
  obtain ⟨q, hq, hq2, hlt⟩ := add_eq hl hn hv
  have hw4 := shl_wrap l.length v hlt
  have hp2 := pk_lt (hl.snoc hn hv)
  have hw1 : IntKind.u64.wrap (v : Int) = (v : Int) := by rw [IntKind.wrap_u64]; omega
  have hw2 : IntKind.i64.wrap ((l.length : Int) * 4) = (l.length : Int) * 4 := by simp [IntKind.wrap, IntKind.bits, IntKind.signed]; omega
  have hw3 : IntKind.u64.wrap ((q : Int) + 1152921504606846976) = ((pk (l ++ [v]) : Nat) : Int) := by rw [IntKind.wrap_u64]; omega
  clear hq2 hlt
  have hb : b < w.heap.size := World.block_lt_of_cell? _ _ hc
  go_enter Yba.func22, Yba.ntmps22
  go_wp2_with fail
  go_region_with (go_at_call 8; refine (lenS l hl _).mono ?_; rintro e w1 ⟨rfl, rfl⟩)
  all_goals go_wp2
  all_goals (go_end0; exact ⟨rfl, added w b _ _ _ _ hc hf hb⟩)

end Go.Proofs.Ybulkcbu
