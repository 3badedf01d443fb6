/-
  PLAIN LAWS on the packed lists ('shortList'): value i in bits 4i to 4i+3, the length in the top four bits. No Go in sight.
-/
import Derived.Laws.BitsAllLaws
namespace Go.Proofs.Ybulkcbu

def body : List Nat → Nat
  | [] => 0
  | c :: r => c + 16 * body r

/-- THE PACKED LIST. -/
def pk (l : List Nat) : Nat := body l + l.length * 1152921504606846976

/-- Each value fits in four bits; at most fifteen of them. -/
def Fits (l : List Nat) : Prop := (∀ c ∈ l, c < 16) ∧ l.length ≤ 15

theorem Fits.nil : Fits [] := ⟨by simp, by simp⟩
theorem Fits.snoc {l : List Nat} {v : Nat} (h : Fits l) (hl : l.length ≤ 14) (hv : v < 16) : Fits (l ++ [v]) := by
  refine ⟨fun c hc => ?_, by simp; omega⟩
  rcases List.mem_append.1 hc with hc | hc
  · exact h.1 c hc
  · have : c = v := by simpa using hc
    omega

theorem body_lt : ∀ (l : List Nat), (∀ c ∈ l, c < 16) → body l < 16 ^ l.length
  | [], _ => by simp [body]
  | c :: r, h => by
    have h1 := h c (by simp)
    have h2 := body_lt r (fun x hx => h x (by simp [hx]))
    simp only [body, List.length_cons, Nat.pow_succ]
    omega

theorem body_snoc : ∀ (l : List Nat) (v : Nat), body (l ++ [v]) = body l + v * 16 ^ l.length
  | [], v => by simp [body]
  | c :: r, v => by
    simp only [List.cons_append, body, body_snoc r v, List.length_cons, Nat.pow_succ]
    rw [Nat.mul_add, ← Nat.mul_assoc, Nat.mul_comm 16 v, Nat.mul_assoc v 16, Nat.mul_comm 16 (16 ^ r.length)]
    omega

theorem pow_le_60 {n : Nat} (h : n ≤ 15) : (16 : Nat) ^ n ≤ 1152921504606846976 := by
  have : (16 : Nat) ^ n ≤ 16 ^ 15 := Nat.pow_le_pow_right (by decide) h
  have e : (16 : Nat) ^ 15 = 1152921504606846976 := by decide
  omega

theorem body_lt_60 {l : List Nat} (h : Fits l) : body l < 1152921504606846976 := Nat.lt_of_lt_of_le (body_lt l h.1) (pow_le_60 h.2)

theorem pk_lt {l : List Nat} (h : Fits l) : pk l < 18446744073709551616 := by
  have h1 := body_lt_60 h
  have h2 := h.2
  unfold pk
  omega

theorem pk_len {l : List Nat} (h : Fits l) : pk l / 1152921504606846976 = l.length := by
  have h1 := body_lt_60 h
  unfold pk
  omega

theorem body_at : ∀ (l : List Nat) (i : Nat) (_ : ∀ c ∈ l, c < 16) (hi : i < l.length), body l / 16 ^ i % 16 = l[i]
  | c :: r, 0, h, _ => by
    have := h c (by simp)
    simp [body]; omega
  | c :: r, i + 1, h, hi => by
    have h1 := h c (by simp)
    have := body_at r i (fun x hx => h x (by simp [hx])) (by simpa using hi)
    simp only [body, Nat.pow_succ, List.getElem_cons_succ]
    rw [Nat.mul_comm (16 ^ i) 16, ← Nat.div_div_eq_div_mul, show (c + 16 * body r) / 16 = body r from by omega]
    exact this

theorem sixteen (i : Nat) (h : i ≤ 14) : (1152921504606846976 : Nat) = 16 ^ i * (16 * 16 ^ (14 - i)) := by
  have e : (16 : Nat) ^ 15 = 1152921504606846976 := by decide
  rw [← e, ← Nat.pow_succ', ← Nat.pow_add]
  congr 1
  omega

theorem pk_at {l : List Nat} (h : Fits l) (i : Nat) (hi : i < l.length) : pk l / 16 ^ i % 16 = l[i] := by
  have hi14 : i ≤ 14 := by have := h.2; omega
  have hp : 0 < (16 : Nat) ^ i := Nat.pow_pos (by decide)
  unfold pk
  have e : body l + l.length * 1152921504606846976 = body l + 16 ^ i * (l.length * (16 * 16 ^ (14 - i))) := by
    rw [sixteen i hi14]
    congr 1
    rw [← Nat.mul_assoc, Nat.mul_comm l.length, Nat.mul_assoc]
  rw [e, Nat.add_mul_div_left _ _ hp, Nat.add_mod, show l.length * (16 * 16 ^ (14 - i)) = 16 * (l.length * 16 ^ (14 - i)) from by rw [← Nat.mul_assoc, Nat.mul_comm l.length 16, Nat.mul_assoc], Nat.mul_mod_right, Nat.add_zero, Nat.mod_mod]
  exact body_at l i h.1 hi

theorem pk_or {l : List Nat} {v : Nat} (h : Fits l) (hl : l.length ≤ 14) (hv : v < 16) : pk l ||| v * 2 ^ (l.length * 4) = pk l + v * 16 ^ l.length := by
  have e16 : ∀ n : Nat, (2 : Nat) ^ (n * 4) = 16 ^ n := fun n => by rw [Nat.mul_comm, Nat.pow_mul]
  have hb := body_lt l h.1
  have hp : 0 < (16 : Nat) ^ l.length := Nat.pow_pos (by decide)
  have e1 : v * 16 ^ l.length ||| body l = v * 16 ^ l.length + body l := nat_join (l.length * 4) _ _ (by rw [e16, Nat.mul_mod_left]) (by rw [e16]; exact hb)
  have hH : l.length * 1152921504606846976 = 16 ^ (l.length + 1) * (l.length * 16 ^ (14 - l.length)) := by
    conv => lhs; rw [sixteen l.length hl]
    rw [Nat.pow_succ, ← Nat.mul_assoc, ← Nat.mul_assoc, ← Nat.mul_assoc, Nat.mul_comm l.length, Nat.mul_assoc (16 ^ l.length) l.length 16, Nat.mul_comm l.length 16, ← Nat.mul_assoc]
  have hsum : v * 16 ^ l.length + body l < 2 ^ ((l.length + 1) * 4) := by
    rw [e16, Nat.pow_succ]
    have : v * 16 ^ l.length ≤ 15 * 16 ^ l.length := Nat.mul_le_mul_right _ (by omega)
    omega
  have e2 : l.length * 1152921504606846976 ||| (v * 16 ^ l.length + body l) = l.length * 1152921504606846976 + (v * 16 ^ l.length + body l) :=
    nat_join ((l.length + 1) * 4) _ _ (by rw [e16, hH, Nat.mul_mod_right]) hsum
  have hbs : body l < 2 ^ ((l.length + 1) * 4) := by omega
  have e3 : l.length * 1152921504606846976 ||| body l = l.length * 1152921504606846976 + body l :=
    nat_join ((l.length + 1) * 4) _ _ (by rw [e16, hH, Nat.mul_mod_right]) hbs
  rw [e16]
  unfold pk
  rw [Nat.add_comm (body l), ← e3, Nat.or_assoc, Nat.or_comm (body l), e1, e2, e3, Nat.add_comm (v * 16 ^ l.length) (body l), ← Nat.add_assoc]

theorem pk_snoc {l : List Nat} {v : Nat} : pk (l ++ [v]) = pk l + v * 16 ^ l.length + 1152921504606846976 := by
  unfold pk
  rw [body_snoc, List.length_append]
  simp only [List.length_cons, List.length_nil]
  omega

end Go.Proofs.Ybulkcbu
