import Derived.WalkKit
import Derived.ProofKit
import Derived.Laws.CopyOwn
namespace Go.Proofs.Qxb6617605a
open Go.RowKit

/-- block g is a row of n cells of type t, none frozen -/
def RowAt (w : World) (g : Nat) (t : TypeId) (n : Nat) : Prop := ∃ M : Array Value, M.size = n ∧ w.heap[g]? = some (.cells M t (0, 0))

/-- 'make([]T, n)', T of 'size' cells: a new row of n * size cells. -/
theorem wpList_make_row {P : Program} (w : World) {ops : Array Oper} {rest : List Oper} {o : Oper} {a : Act} {Q : Exit → Act → World → Prop}
    (hg : o.guard = none) (l c : Operand) (t : TypeId) (hop : o.op = Op.makeSlice t l c) (e : TypeId) (z : Value) (size bytes : Nat) (h1 : P.underlying t = some (.slice e))
    (h2 : (P.info? e).map (fun i => (i.zero, i.size, i.bytes)) = some (some z, size, bytes)) (kl kc : IntKind) (n : Nat) (hl : a.eval l = .int kl n) (hc : a.eval c = .int kc n)
    (b2 : bytes * n ≤ 281474976710656) (b3 : n ≤ 9223372036854775807)
    (hK : ∀ w', Below w.heap.size w w' → RowAt w' w.heap.size e (n * size) → w'.heap.size = w.heap.size + 1 → wpList P ops Q rest (a.put o.dst (.slice (some ⟨w.heap.size, 0, none⟩) n n)) w') :
    wpList P ops Q (o :: rest) a w := by
  obtain ⟨i, hi, hz0, hz1, hz2⟩ := info_parts h2
  refine wpList_plain hg fun K hK' => ?_
  have hby : (i.bytes : Int) * (n : Int) ≤ 281474976710656 := by
    have h : ((bytes * n : Nat) : Int) ≤ 281474976710656 := by omega
    rw [Int.natCast_mul] at h
    rw [hz2]; exact h
  have hrun := run_make (P := P) w t e i z h1 hi hz0 kl kc (n : Int) (n : Int) (by omega) (by omega) hby (by omega)
  unfold Oper.wp
  simp [execOp, hop, hl, hc, hrun, Result.andThen]
  refine hK' _ _ (hK _ ((Below.refl _ _).alloc (Nat.le_refl _) _) ⟨_, ?_, heap_alloc_new w _⟩ (by simp))
  rw [size_madeCells, hz1]

theorem cell_of_row {w : World} {g : Nat} {t : TypeId} {cs : Array Value} (h : w.heap[g]? = some (.cells cs t (0, 0))) (j : Nat) : w.cell? ⟨g, j, none⟩ = cs[j]? := by
  simp [World.cell?, h]

/-- 'copy(row, xs)' over the whole of a row of the call's own. -/
theorem wpList_copy_row {P : Program} {w : World} {ops : Array Oper} {rest : List Oper} {o : Oper} {a : Act} {Q : Exit → Act → World → Prop} (hgd : o.guard = none) (d s : Operand) (dT sT : TypeId)
    (ho : o.op = .call { callee := .builtin .copy, args := #[d, s], argTypes := #[dT, sT] }) (elem : TypeId) (hu : P.underlying dT = some (.slice elem)) (hsz : (P.info? elem).map (·.size) = some 1)
    (g n sCap : Nat) (ad : Addr) (hd : a.eval d = .slice (some ⟨g, 0, none⟩) n n) (hs : a.eval s = .slice (some ad) n sCap)
    (t : TypeId) (hrow : RowAt w g t n) (v : Nat → Value) (hv : ∀ j, j < n → w.cell? (ad.add j) = some (v j)) (h1 : ∀ j, (v j).oneCell' = true)
    (h : ∀ w', Below g w w' → (∀ j, j < n → w'.cell? ⟨g, j, none⟩ = some (v j)) → w'.heap.size = w.heap.size → wpList P ops Q rest (a.put o.dst (goInt n)) w') : wpList P ops Q (o :: rest) a w := by
  obtain ⟨M, hM, hgM⟩ := hrow
  have hlen : ((List.range n).map v).length = n := by simp
  refine wpList_copy_own hgd d s dT sT ho elem hu hsz g 0 n n ad n sCap hd hs M t hgM ((List.range n).map v) (by simp) ?_ (by simp [hM]) ?_ ?_
  · intro j u hj
    simp only [List.getElem?_map, Option.map_eq_some_iff] at hj
    obtain ⟨i, hi, rfl⟩ := hj
    obtain ⟨hlt, rfl⟩ := List.getElem?_eq_some_iff.1 hi
    rw [List.getElem_range]
    exact hv j (by simpa using hlt)
  · intro u hu
    obtain ⟨i, _, rfl⟩ := List.mem_map.1 hu
    exact h1 i
  · rw [hlen]
    refine h _ (below_setRow (Below.refl _ _) (Nat.le_refl _) _) ?_ (by simp [World.setRow])
    intro j hj
    rw [cell_of_row (setRow_heap w g _ _ t (0, 0) hgM)]
    simp only [List.take_zero, List.nil_append, Nat.zero_add]
    rw [List.drop_of_length_le (by simp [hM]), List.append_nil]
    simp [hj]

/-- the same, the operation written out: under 'with_reducible' it is tried in vain elsewhere at no cost -/
theorem wpList_copy_lit {P : Program} {w : World} {ops : Array Oper} {rest : List Oper} {dst : Option Tmp} {ty : TypeId} {pos : String} {aft : Array Edge} {a : Act} {Q : Exit → Act → World → Prop} {d s : Operand} {dT sT : TypeId}
    (elem : TypeId) (hu : P.underlying dT = some (.slice elem)) (hsz : (P.info? elem).map (·.size) = some 1) (g n sCap : Nat) (ad : Addr)
    (t : TypeId) (hrow : RowAt w g t n) (v : Nat → Value) (hv : ∀ j, j < n → w.cell? (ad.add j) = some (v j)) (h1 : ∀ j, (v j).oneCell' = true)
    (hd : a.eval d = .slice (some ⟨g, 0, none⟩) n n) (hs : a.eval s = .slice (some ad) n sCap)
    (h : ∀ w', Below g w w' → (∀ j, j < n → w'.cell? ⟨g, j, none⟩ = some (v j)) → w'.heap.size = w.heap.size → wpList P ops Q rest (a.put dst (goInt n)) w') :
    wpList P ops Q (⟨dst, Op.call { callee := .builtin .copy, args := #[d, s], argTypes := #[dT, sT] }, ty, pos, aft, none⟩ :: rest) a w :=
  wpList_copy_row rfl d s dT sT rfl elem hu hsz g n sCap ad hd hs t hrow v hv h1 h

/-- 'append(xs, ..)' of at least one element to a row of the call's own: besides what the library's law says, WHERE the new row lies: at the old one's block, or in a block that was not there. -/
theorem run_append_where {P : Program} (w : World) (base : Nat) (t ty e : TypeId) (i : TypeInfo) (z : Value) (size bytes : Nat) (ht : P.underlying t = some (.slice e)) (hi : P.info? e = some i) (hz : i.zero = some z)
    (hsize : i.size = size) (hby : i.bytes = bytes) (hzs : z.cells.size = size) (hsz : 0 < size)
    (v : Value) (n : Nat) (xs : List Value) (hown : w.ownsRow base e size v n xs)
    (a : Addr) (m c : Nat) (news : List Value) (hm : 0 < m) (hl : news.length = m * size) (hnews : ∀ j u, news[j]? = some u → w.cell? (a.add j) = some u) (h1 : ∀ u ∈ news, u.oneCell' = true)
    (h63 : n + m ≤ 9223372036854775807) (hbytes : (n + m) * bytes ≤ 140737488355328) (hbase : base ≤ w.heap.size) :
    ∃ v' w', (Builtin.append_ #[t, t] ty #[v, .slice (some a) m c]).run P w = .ok v' w' ∧ w'.ownsRow base e size v' (n + m) (xs ++ news) ∧ w.grownBy w' v.ownBlock ∧
      (v'.ownBlock = v.ownBlock ∨ v'.ownBlock = some w.heap.size) := by
  obtain ⟨v', w', hr, o1, o2, -⟩ := run_append_own (P := P) w base t ty e i z size bytes ht hi hz hsize hby hzs hsz v n xs hown a m c news hl hnews h1 (by unfold maxLen; omega) hbytes hbase
  refine ⟨v', w', hr, o1, o2, ?_⟩
  subst hsize
  subst hby
  rcases hown.2 with ⟨rfl, rfl⟩ | ⟨g, cap, cur, rfl, hbg, hg, hnc, hcm, hcs, htake⟩
  · have hr' := run_append_nil (P := P) w t ty e i z ht hi hz a m c news hl hnews hm (by omega) (by have hb := hbytes; simp only [Nat.zero_add] at hb; omega)
    rw [hr] at hr'
    injection hr' with e1 e2
    exact .inr (by rw [e1]; rfl)
  · by_cases hroom : n + m ≤ cap
    · have hfit : n * i.size + news.length ≤ cur.size := by rw [hl, hcs, ← Nat.add_mul]; exact Nat.mul_le_mul_right _ hroom
      have hr' := run_append_room (P := P) w t ty e i ht hi g n cap cur hg a m c news hl hnews h1 hroom hfit
      rw [hr] at hr'
      injection hr' with e1 e2
      exact .inl (by rw [e1]; rfl)
    · have hr' := run_append_grow (P := P) w t ty e i z ht hi hz ⟨g, 0, none⟩ n cap xs hown.1 (hown.cells (g := g) rfl) a m c news hl hnews (by omega) (by omega) (growslice_fits (by omega) hbytes)
      rw [hr] at hr'
      injection hr' with e1 e2
      exact .inr (by rw [e1]; rfl)

/-- the same as a law of the walk, the operation written out -/
theorem wpList_append_lit {P : Program} {w : World} {ops : Array Oper} {rest : List Oper} {dst : Option Tmp} {ty : TypeId} {pos : String} {aft : Array Edge} {a : Act} {Q : Exit → Act → World → Prop} {s x : Operand} {t : TypeId}
    (base : Nat) (e : TypeId) (z : Value) (size bytes : Nat) (ht : P.underlying t = some (.slice e)) (h2 : (P.info? e).map (fun i => (i.zero, i.size, i.bytes)) = some (some z, size, bytes))
    (hzs : z.cells.size = size) (hsz : 0 < size) (v : Value) (n : Nat) (xs : List Value) (hown : w.ownsRow base e size v n xs)
    (ad : Addr) (m c : Nat) (news : List Value) (hm : 0 < m) (hl : news.length = m * size) (hnews : ∀ j u, news[j]? = some u → w.cell? (ad.add j) = some u) (h1 : ∀ u ∈ news, u.oneCell' = true)
    (h63 : n + m ≤ 9223372036854775807) (hbytes : (n + m) * bytes ≤ 140737488355328) (hbase : base ≤ w.heap.size) (hs : a.eval s = v) (hx : a.eval x = .slice (some ad) m c)
    (h : ∀ v' w', w'.ownsRow base e size v' (n + m) (xs ++ news) → w.grownBy w' v.ownBlock → (v'.ownBlock = v.ownBlock ∨ v'.ownBlock = some w.heap.size) → wpList P ops Q rest (a.put dst v') w') :
    wpList P ops Q (⟨dst, Op.call { callee := .builtin .append, args := #[s, x], argTypes := #[t, t] }, ty, pos, aft, none⟩ :: rest) a w := by
  obtain ⟨i, hi, hz0, hz1, hz2⟩ := info_parts h2
  refine wpList_plain rfl fun K hK => ?_
  obtain ⟨v', w', hr, o1, o2, o3⟩ := run_append_where (P := P) w base t ty e i z size bytes ht hi hz0 hz1 hz2 hzs hsz v n xs hown ad m c news hm hl hnews h1 h63 hbytes hbase
  unfold Oper.wp
  simp [execOp, resolve, invoke, builtin, hs, hx, hr, Result.andThen]
  exact hK _ _ (h v' w' o1 o2 o3)
end Go.Proofs.Qxb6617605a
