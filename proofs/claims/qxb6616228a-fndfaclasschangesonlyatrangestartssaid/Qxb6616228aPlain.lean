namespace Go.Proofs.Qxb6616228a

/-- strictly rising below n -/
def Rising (f : Nat → Int) (n : Nat) : Prop := ∀ i, i + 1 < n → f i < f (i + 1)

theorem Rising.lt {f : Nat → Int} {n : Nat} (h : Rising f n) : ∀ (d i : Nat), i + d + 1 < n → f i < f (i + d + 1)
  | 0, i, hi => h i hi
  | d + 1, i, hi => by
    have h1 := Rising.lt h d i (by omega)
    have h2 := h (i + d + 1) (by omega)
    have e : i + (d + 1) + 1 = i + d + 1 + 1 := by omega
    rw [e]
    omega

theorem Rising.lt' {f : Nat → Int} {n : Nat} (h : Rising f n) (i k : Nat) (hik : i < k) (hk : k < n) : f i < f k := by
  have h1 := Rising.lt h (k - i - 1) i (by omega)
  have e : i + (k - i - 1) + 1 = k := by omega
  rwa [e] at h1

theorem Rising.le' {f : Nat → Int} {n : Nat} (h : Rising f n) (i k : Nat) (hik : i ≤ k) (hk : k < n) : f i ≤ f k := by
  by_cases e : i = k
  · subst e; exact Int.le_refl _
  · exact Int.le_of_lt (h.lt' i k (by omega) hk)

/-- place l's range holds r -/
def At (f : Nat → Int) (n : Nat) (r : Int) (l : Nat) : Prop := l < n ∧ f l ≤ r ∧ (l + 1 < n → r < f (l + 1))

theorem At.not_lt {f : Nat → Int} {n : Nat} {r : Int} {l m : Nat} (h : Rising f n) (a : At f n r l) (b : At f n r m) : ¬ l < m := by
  intro hlm
  have h1 := a.2.2 (by have := b.1; omega)
  have h2 := h.le' (l + 1) m (by omega) b.1
  have h3 := b.2.1
  omega

theorem At.unique {f : Nat → Int} {n : Nat} {r : Int} {l m : Nat} (h : Rising f n) (a : At f n r l) (b : At f n r m) : l = m := by
  have h1 := At.not_lt h a b
  have h2 := At.not_lt h b a
  omega

/-- a place in the part from j on is a place of the whole -/
theorem At.high {f : Nat → Int} {n j : Nat} {r : Int} {l : Nat} (hj : j < n) (a : At (fun i => f (j + i)) (n - j) r l) : At f n r (j + l) :=
  ⟨by have := a.1; omega, a.2.1, fun h => a.2.2 (by omega)⟩

/-- a place in the part before j, where r lies below f j, is a place of the whole -/
theorem At.low {f : Nat → Int} {n j : Nat} {r : Int} {l : Nat} (hj : j < n) (hr : r < f j) (a : At f j r l) : At f n r l := by
  refine ⟨by have := a.1; omega, a.2.1, fun _ => ?_⟩
  by_cases e : l + 1 < j
  · exact a.2.2 e
  · have : l + 1 = j := by have := a.1; omega
    rw [this]; exact hr

theorem Rising.place {f : Nat → Int} {n j : Nat} (h : Rising f n) (hj : j < n) : At f n (f j) j := ⟨hj, Int.le_refl _, fun hk => h j hk⟩

/-- r - 1 is in the range of r where r opens no range -/
theorem At.pred {f : Nat → Int} {n : Nat} {r : Int} {l : Nat} (a : At f n r l) (hne : ∀ k, k < n → f k ≠ r) : At f n (r - 1) l := by
  refine ⟨a.1, ?_, fun h => ?_⟩
  · have h1 := a.2.1
    have h2 := hne l a.1
    omega
  · have := a.2.2 h
    omega
end Go.Proofs.Qxb6616228a
