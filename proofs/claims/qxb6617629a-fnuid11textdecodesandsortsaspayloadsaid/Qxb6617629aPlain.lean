namespace Go.Proofs.Qxb6617629a

/-- the symbol of a digit, read off the alphabet's ranges -/
def sym (d : Nat) : Int :=
  if d ≤ 8 then 49 + d else if d ≤ 16 then 56 + d else if d ≤ 21 then 57 + d else if d ≤ 32 then 58 + d else if d ≤ 43 then 64 + d else 65 + d
theorem sym_lt {d e : Nat} (h : d < e) (he : e ≤ 57) : sym d < sym e := by
  unfold sym
  repeat' split
  all_goals omega
theorem sym_bd (d : Nat) (h : d ≤ 57) : 49 ≤ sym d ∧ sym d ≤ 122 := by
  unfold sym
  repeat' split
  all_goals omega

/-- what is left of u when the digits from place k on are struck -/
def hi (u k : Nat) : Nat := u / 58 ^ (11 - k)
/-- the digit at place i -/
def dg (u i : Nat) : Nat := hi u (i + 1) % 58
/-- the text's byte at place i -/
def tx (u i : Nat) : Int := sym (dg u i)

theorem hi_all (u : Nat) : hi u 11 = u := by simp [hi]
theorem hi_none (u : Nat) (h : u < 18446744073709551616) : hi u 0 = 0 := by
  unfold hi
  exact Nat.div_eq_of_lt (Nat.lt_of_lt_of_le h (by decide))
theorem hi_step (u i : Nat) (h : i < 11) : hi u i = hi u (i + 1) / 58 := by
  unfold hi
  have e : 11 - i = (11 - (i + 1)) + 1 := by omega
  rw [e, Nat.pow_succ, Nat.div_div_eq_div_mul]
theorem dg_le (u i : Nat) : dg u i ≤ 57 := by unfold dg; omega
theorem hi_dg (u i : Nat) (h : i < 11) : hi u (i + 1) = hi u i * 58 + dg u i := by
  rw [hi_step u i h]; unfold dg; omega
theorem hi_le (u k : Nat) : hi u k ≤ u := Nat.div_le_self _ _
theorem tx_bd (u i : Nat) : 49 ≤ tx u i ∧ tx u i ≤ 122 := sym_bd _ (dg_le u i)
theorem tx_lt {a b i : Nat} (h : dg a i < dg b i) : tx a i < tx b i := sym_lt h (dg_le b i)
theorem hi_mono {a b : Nat} (h : a ≤ b) (k : Nat) : hi a k ≤ hi b k := Nat.div_le_div_right h
theorem lt_of_dg {a b i : Nat} (hi' : i < 11) (he : hi a i = hi b i) (h : dg a i < dg b i) : a < b := by
  by_cases hab : a < b
  · exact hab
  · have h1 := hi_mono (show b ≤ a by omega) (i + 1)
    rw [hi_dg a i hi', hi_dg b i hi'] at h1
    omega
theorem hi_eq {a b i : Nat} (hi' : i < 11) (he : hi a i = hi b i) (h : dg a i = dg b i) : hi a (i + 1) = hi b (i + 1) := by
  rw [hi_dg a i hi', hi_dg b i hi', he, h]

/-- how two payloads compare -/
def cmp (a b : Nat) : Int := if a < b then -1 else if b < a then 1 else 0
end Go.Proofs.Qxb6617629a
