namespace Go.Proofs.Qxb6617605a

def gAt (ys : List (Int × Int)) (j : Nat) : Int := (ys.getD j (0, 0)).1
def lAt (ys : List (Int × Int)) (j : Nat) : Int := (ys.getD j (0, 0)).2

/-- above the floor -/
def over (fl : Int) (p : Int × Int) : Bool := decide (fl < p.2)
def kept (fl : Int) (ys : List (Int × Int)) : List (Int × Int) := ys.filter (over fl)
def gone (fl : Int) (ys : List (Int × Int)) : List (Int × Int) := ys.filter (fun p => !over fl p)

theorem kept_append (fl : Int) (a b : List (Int × Int)) : kept fl (a ++ b) = kept fl a ++ kept fl b := List.filter_append _ _
theorem gone_append (fl : Int) (a b : List (Int × Int)) : gone fl (a ++ b) = gone fl a ++ gone fl b := List.filter_append _ _
theorem kept_len (fl : Int) (a : List (Int × Int)) : (kept fl a).length ≤ a.length := List.length_filter_le _ _
theorem gone_len (fl : Int) (a : List (Int × Int)) : (gone fl a).length ≤ a.length := List.length_filter_le _ _
theorem both_len (fl : Int) : ∀ a : List (Int × Int), (kept fl a).length + (gone fl a).length = a.length
  | [] => rfl
  | p :: a => by
    have ih := both_len fl a
    unfold kept gone at *
    cases h : over fl p <;> simp [h] <;> omega

theorem take_snoc (ys : List (Int × Int)) (k : Nat) (h : k < ys.length) : ys.take (k + 1) = ys.take k ++ [(gAt ys k, lAt ys k)] := by
  have e : (gAt ys k, lAt ys k) = ys[k] := by simp [gAt, lAt, List.getD, h]
  rw [e, List.take_succ_eq_append_getElem h]

theorem kept_hit (fl : Int) (ys : List (Int × Int)) (k : Nat) (h : k < ys.length) (hp : fl < lAt ys k) : kept fl (ys.take (k + 1)) = kept fl (ys.take k) ++ [(gAt ys k, lAt ys k)] := by
  rw [take_snoc ys k h, kept_append]; simp [kept, over, hp]
theorem kept_miss (fl : Int) (ys : List (Int × Int)) (k : Nat) (h : k < ys.length) (hp : lAt ys k ≤ fl) : kept fl (ys.take (k + 1)) = kept fl (ys.take k) := by
  rw [take_snoc ys k h, kept_append]; simp [kept, over]; omega
theorem gone_hit (fl : Int) (ys : List (Int × Int)) (k : Nat) (h : k < ys.length) (hp : lAt ys k ≤ fl) : gone fl (ys.take (k + 1)) = gone fl (ys.take k) ++ [(gAt ys k, lAt ys k)] := by
  rw [take_snoc ys k h, gone_append]; simp [gone, over]; omega
theorem gone_miss (fl : Int) (ys : List (Int × Int)) (k : Nat) (h : k < ys.length) (hp : fl < lAt ys k) : gone fl (ys.take (k + 1)) = gone fl (ys.take k) := by
  rw [take_snoc ys k h, gone_append]; simp [gone, over]; omega

theorem gAt_append_left (a b : List (Int × Int)) (j : Nat) (h : j < a.length) : gAt (a ++ b) j = gAt a j := by simp [gAt, List.getD, List.getElem?_append_left h]
theorem lAt_append_left (a b : List (Int × Int)) (j : Nat) (h : j < a.length) : lAt (a ++ b) j = lAt a j := by simp [lAt, List.getD, List.getElem?_append_left h]
theorem gAt_append_right (a b : List (Int × Int)) (j : Nat) : gAt (a ++ b) (a.length + j) = gAt b j := by simp [gAt, List.getD, List.getElem?_append_right (Nat.le_add_right _ _)]
theorem lAt_append_right (a b : List (Int × Int)) (j : Nat) : lAt (a ++ b) (a.length + j) = lAt b j := by simp [lAt, List.getD, List.getElem?_append_right (Nat.le_add_right _ _)]

/-- the k-th element, if it is kept, stands in the kept list at its rank -/
theorem kept_rank (fl : Int) (ys : List (Int × Int)) (k : Nat) (h : k < ys.length) (hp : fl < lAt ys k) :
    (kept fl (ys.take k)).length < (kept fl ys).length ∧ gAt (kept fl ys) (kept fl (ys.take k)).length = gAt ys k ∧ lAt (kept fl ys) (kept fl (ys.take k)).length = lAt ys k := by
  have e : kept fl ys = kept fl (ys.take k) ++ ((gAt ys k, lAt ys k) :: kept fl (ys.drop (k + 1))) := by
    have e1 : ys = ys.take (k + 1) ++ ys.drop (k + 1) := (List.take_append_drop _ _).symm
    have e2 : kept fl ys = kept fl (ys.take (k + 1)) ++ kept fl (ys.drop (k + 1)) := by rw [← kept_append, ← e1]
    rw [e2, kept_hit fl ys k h hp, List.append_assoc]; rfl
  generalize hA : kept fl (ys.take k) = A at *
  generalize kept fl (ys.drop (k + 1)) = C at *
  rw [e]
  refine ⟨by simp, ?_, ?_⟩
  · simp [gAt, List.getD]
  · simp [lAt, List.getD]
theorem gone_rank (fl : Int) (ys : List (Int × Int)) (k : Nat) (h : k < ys.length) (hp : lAt ys k ≤ fl) :
    (gone fl (ys.take k)).length < (gone fl ys).length ∧ gAt (gone fl ys) (gone fl (ys.take k)).length = gAt ys k ∧ lAt (gone fl ys) (gone fl (ys.take k)).length = lAt ys k := by
  have e : gone fl ys = gone fl (ys.take k) ++ ((gAt ys k, lAt ys k) :: gone fl (ys.drop (k + 1))) := by
    have e1 : ys = ys.take (k + 1) ++ ys.drop (k + 1) := (List.take_append_drop _ _).symm
    have e2 : gone fl ys = gone fl (ys.take (k + 1)) ++ gone fl (ys.drop (k + 1)) := by rw [← gone_append, ← e1]
    rw [e2, gone_hit fl ys k h hp, List.append_assoc]; rfl
  generalize hA : gone fl (ys.take k) = A at *
  generalize gone fl (ys.drop (k + 1)) = C at *
  rw [e]
  refine ⟨by simp, ?_, ?_⟩
  · simp [gAt, List.getD]
  · simp [lAt, List.getD]

theorem gAt_take (ys : List (Int × Int)) (c j : Nat) (h : j < c) : gAt (ys.take c) j = gAt ys j := by simp [gAt, List.getD, h]
theorem lAt_take (ys : List (Int × Int)) (c j : Nat) (h : j < c) : lAt (ys.take c) j = lAt ys j := by simp [lAt, List.getD, h]
theorem gAt_drop (ys : List (Int × Int)) (c j : Nat) : gAt (ys.drop c) j = gAt ys (c + j) := by simp [gAt, List.getD]
theorem lAt_drop (ys : List (Int × Int)) (c j : Nat) : lAt (ys.drop c) j = lAt ys (c + j) := by simp [lAt, List.getD]

/-- the pairs of two rows of numbers -/
def pairs (n : Nat) (f g : Nat → Int) : List (Int × Int) := (List.range n).map fun j => (f j, g j)
theorem pairs_len (n : Nat) (f g : Nat → Int) : (pairs n f g).length = n := by simp [pairs]
theorem pairs_g (n : Nat) (f g : Nat → Int) (j : Nat) (h : j < n) : gAt (pairs n f g) j = f j := by simp [gAt, pairs, List.getD, h]
theorem pairs_l (n : Nat) (f g : Nat → Int) (j : Nat) (h : j < n) : lAt (pairs n f g) j = g j := by simp [lAt, pairs, List.getD, h]
end Go.Proofs.Qxb6617605a
