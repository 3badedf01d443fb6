/-
  PLAIN LAWS for 'table.LawS0149BRaw': no Go in sight. 'unqL': what 'unquote' gives for a list of bytes ('none' where the Go text would index beyond its end).
-/
namespace Go.Proofs.Ybulkcbg

def unqL : List Int → Option (List Int)
  | [] => some []
  | [c] => if c = 34 then none else some [c]
  | c :: d :: r => if c = 34 ∨ (c = 13 ∧ d = 10) then (unqL r).map (d :: ·) else (unqL (d :: r)).map (c :: ·)

/-- The bytes of a token as they stand in the body, and as they are wanted. -/
def tokRaw (k : Int) : List Int := if k = 0 then [97] else if k = 1 then [44] else if k = 2 then [10] else if k = 3 then [34, 34] else if k = 4 then [13, 10] else [13, 98]
def tokWant (k : Int) : List Int := if k = 0 then [97] else if k = 1 then [44] else if k = 2 then [10] else if k = 3 then [34] else if k = 4 then [10] else [13, 98]
def rawOf (zs : List Int) : List Int := zs.flatMap fun z => tokRaw (z % 6)
def wantOf (zs : List Int) : List Int := zs.flatMap fun z => tokWant (z % 6)

theorem unqL_plain (c : Int) (r s : List Int) (h1 : c ≠ 34) (h2 : c ≠ 13) (h : unqL r = some s) : unqL (c :: r) = some (c :: s) := by
  cases r with
  | nil => simp [unqL] at h; subst h; simp [unqL, h1]
  | cons d r => simp [unqL, h1, h2, h]

theorem unqL_pair (c d : Int) (r s : List Int) (h1 : c = 34 ∨ (c = 13 ∧ d = 10)) (h : unqL r = some s) : unqL (c :: d :: r) = some (d :: s) := by
  simp [unqL, h1, h]

theorem unqL_cr (d : Int) (r s : List Int) (h1 : d ≠ 10) (h : unqL (d :: r) = some s) : unqL (13 :: d :: r) = some (13 :: s) := by
  simp [unqL, h1, h]

/-- THE PLAIN LAW. -/
theorem unqL_raw (zs : List Int) : unqL (rawOf zs) = some (wantOf zs) := by
  induction zs with
  | nil => rfl
  | cons z zs ih =>
    show unqL (tokRaw (z % 6) ++ rawOf zs) = some (tokWant (z % 6) ++ wantOf zs)
    generalize z % 6 = k
    unfold tokRaw tokWant
    by_cases h0 : k = 0
    · simp only [h0, if_true]; exact unqL_plain _ _ _ (by decide) (by decide) ih
    by_cases h1 : k = 1
    · simp only [h1, if_true, show ¬ (1 : Int) = 0 from by decide, if_false]; exact unqL_plain _ _ _ (by decide) (by decide) ih
    by_cases h2 : k = 2
    · simp only [h2, if_true, show ¬ (2 : Int) = 0 from by decide, show ¬ (2 : Int) = 1 from by decide, if_false]; exact unqL_plain _ _ _ (by decide) (by decide) ih
    by_cases h3 : k = 3
    · simp only [h3, if_true, show ¬ (3 : Int) = 0 from by decide, show ¬ (3 : Int) = 1 from by decide, show ¬ (3 : Int) = 2 from by decide, if_false]; exact unqL_pair _ _ _ _ (Or.inl rfl) ih
    by_cases h4 : k = 4
    · simp only [h4, if_true, show ¬ (4 : Int) = 0 from by decide, show ¬ (4 : Int) = 1 from by decide, show ¬ (4 : Int) = 2 from by decide, show ¬ (4 : Int) = 3 from by decide, if_false]; exact unqL_pair _ _ _ _ (Or.inr ⟨rfl, rfl⟩) ih
    · simp only [h0, h1, h2, h3, h4, if_false]; exact unqL_cr _ _ _ (by decide) (unqL_plain _ _ _ (by decide) (by decide) ih)

theorem tokRaw_len (k : Int) : (tokRaw k).length ≤ 2 := by
  unfold tokRaw
  split
  · simp
  split
  · simp
  split
  · simp
  split
  · simp
  split
  · simp
  · simp
theorem tokWant_len (k : Int) : (tokWant k).length ≤ 2 := by
  unfold tokWant
  split
  · simp
  split
  · simp
  split
  · simp
  split
  · simp
  split
  · simp
  · simp
theorem rawOf_len (zs : List Int) : (rawOf zs).length ≤ 2 * zs.length := by
  induction zs with
  | nil => simp [rawOf]
  | cons z zs ih => have := tokRaw_len (z % 6); simp [rawOf] at *; omega
theorem wantOf_len (zs : List Int) : (wantOf zs).length ≤ 2 * zs.length := by
  induction zs with
  | nil => simp [wantOf]
  | cons z zs ih => have := tokWant_len (z % 6); simp [wantOf] at *; omega
theorem rawOf_snoc (zs : List Int) (k : Nat) (h : k < zs.length) : rawOf (zs.take (k + 1)) = rawOf (zs.take k) ++ tokRaw (zs[k] % 6) := by
  simp only [List.take_succ_eq_append_getElem h, rawOf, List.flatMap_append, List.flatMap_cons, List.flatMap_nil, List.append_nil]
theorem wantOf_snoc (zs : List Int) (k : Nat) (h : k < zs.length) : wantOf (zs.take (k + 1)) = wantOf (zs.take k) ++ tokWant (zs[k] % 6) := by
  simp only [List.take_succ_eq_append_getElem h, wantOf, List.flatMap_append, List.flatMap_cons, List.flatMap_nil, List.append_nil]

/-- What stands at index k, split off what is left. -/
theorem drop_at (xs : List Int) (k : Nat) (h : k < xs.length) : xs.drop k = xs[k] :: xs.drop (k + 1) := List.drop_eq_getElem_cons h

theorem unqL_cons {c : Int} {t rest : List Int} (h : unqL (c :: t) = some rest) :
    (c = 34 ∧ ∃ d r s, t = d :: r ∧ unqL r = some s ∧ rest = d :: s) ∨
    (c = 13 ∧ ∃ r s, t = 10 :: r ∧ unqL r = some s ∧ rest = 10 :: s) ∨
    (c = 13 ∧ t = [] ∧ rest = [13]) ∨
    (c = 13 ∧ ∃ d r s, t = d :: r ∧ d ≠ 10 ∧ unqL (d :: r) = some s ∧ rest = 13 :: s) ∨
    (c ≠ 34 ∧ c ≠ 13 ∧ ∃ s, unqL t = some s ∧ rest = c :: s) := by
  cases t with
  | nil =>
    by_cases h1 : c = 34
    · simp [unqL, h1] at h
    · simp [unqL, h1] at h
      by_cases h2 : c = 13
      · subst h2; exact Or.inr (Or.inr (Or.inl ⟨rfl, rfl, h.symm⟩))
      · exact Or.inr (Or.inr (Or.inr (Or.inr ⟨h1, h2, [], rfl, h.symm⟩)))
  | cons d r =>
    by_cases h1 : c = 34
    · subst h1
      simp [unqL] at h
      obtain ⟨s, hs, rfl⟩ := h
      exact Or.inl ⟨rfl, d, r, s, rfl, hs, rfl⟩
    · by_cases h2 : c = 13
      · subst h2
        by_cases h3 : d = 10
        · subst h3
          simp [unqL] at h
          obtain ⟨s, hs, rfl⟩ := h
          exact Or.inr (Or.inl ⟨rfl, r, s, rfl, hs, rfl⟩)
        · simp [unqL, h3] at h
          obtain ⟨s, hs, rfl⟩ := h
          exact Or.inr (Or.inr (Or.inr (Or.inl ⟨rfl, d, r, s, rfl, h3, hs, rfl⟩)))
      · simp [unqL, h1, h2] at h
        obtain ⟨s, hs, rfl⟩ := h
        exact Or.inr (Or.inr (Or.inr (Or.inr ⟨h1, h2, s, hs, rfl⟩)))

end Go.Proofs.Ybulkcbg
