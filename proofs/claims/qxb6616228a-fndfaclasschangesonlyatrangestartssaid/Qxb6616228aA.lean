import Derived.Test.Qxb6616228aProg
import Derived.WalkKit
import Derived.ProofKit
namespace Go.Proofs.Qxb6616228a
open Go.RowKit

/-- 'Op.build' as a law of the walk: the cells come as the program's own table says. -/
theorem wpList_build {P : Program} {w : World} {ops : Array Oper} {rest : List Oper} {dst : Option Tmp} {ty : TypeId} {pos : String} {aft : Array Edge} {a : Act} {Q : Exit → Act → World → Prop}
    {t : TypeId} {parts : Array (Nat × Operand)} (L : List (Nat × Value)) (cells : Array Value) (hb : P.built t L = some cells) (hL : (parts.toList.map fun x => (x.1, a.eval x.2)) = L)
    (h : wpList P ops Q rest (a.put dst (.agg cells)) w) : wpList P ops Q (⟨dst, Op.build t parts, ty, pos, aft, none⟩ :: rest) a w := by
  subst hL
  refine wpList_plain rfl fun K hK' => ?_
  rw [← Array.toList_map] at hb
  have hrun := run_build (P := P) w t _ cells hb
  unfold Oper.wp
  simp [execOp, hrun, Result.andThen]
  exact hK' _ _ h

theorem opt_get {X : Option (Array Value)} {i : Nat} {v : Value} (h : X.bind (fun C => C[i]?) = some v) : ∃ C, X = some C ∧ C[i]? = some v := by
  cases X with
  | none => cases h
  | some C => exact ⟨C, rfl, h⟩

/-! ## the boundary's dfa -/
/-- the cells of '&dfa{boundary: b}' -/
theorem built_dfaB (b : Int) : (Try.prog.built 63 [(7, .int .i64 b)]).bind (fun C => C[134]?) = some (.int .i64 b) := by kernel_rfl
theorem ex_dfaB (b : Int) : ∃ C, Try.prog.built 63 [(7, .int .i64 b)] = some C ∧ C[134]? = some (.int .i64 b) := opt_get (built_dfaB b)

theorem stride_any (B : Nat) (b : Int) (w : World) (hc : w.cell? ⟨B, 134, none⟩ = some (.int .i64 b)) :
    Calls Try.prog 24 #[.pointer (some ⟨B, 0, none⟩)] w fun e w' => e = .returned (.int .i64 (wrap64 (b + 1))) ∧ w' = w := by
  go_enter Try.func24, Try.ntmps24
  go_wp2
  go_ret
  exact ⟨rfl, rfl⟩

theorem newB_any (b : Int) (w : World) :
    Calls Try.prog 18 #[.int .i64 b] w fun e w' => e = .returned (.pointer (some ⟨w.heap.size, 0, none⟩)) ∧ Grown w w' ∧ w.heap.size < w'.heap.size ∧ w'.cell? ⟨w.heap.size, 134, none⟩ = some (.int .i64 b) ∧
      ∀ p : Addr, p.block < w.heap.size → w'.cell? p = w.cell? p := by
  obtain ⟨C, hb, hC⟩ := ex_dfaB b
  have HB : Hid (Try.prog.built 63 [(7, .int .i64 b)] = some C) := hb
  clear hb
  go_enter Try.func18, Try.ntmps18
  go_wp2_with ((with_reducible refine wpList_build [(7, .int .i64 b)] C HB.out ?hl ?_); (case hl => rfl))
  go_ret
  refine ⟨rfl, (Grown.refl _).alloc _ _, by simp, ?_, ?_⟩
  · simp [hC]
  · intro p hp
    exact ((Below.refl _ _).alloc (Nat.le_refl _) _).cell hp

/-- what 'stateSize' reckons -/
def sz (b n k : Int) : Int := wrap64 (wrap64 (wrap64 (wrap64 (4 * wrap64 (b + 1)) + wrap64 (4 * n)) + k) + 64)

theorem size_any (B : Nat) (b n k : Int) (w : World) (hc : w.cell? ⟨B, 134, none⟩ = some (.int .i64 b)) :
    Calls Try.prog 19 #[.pointer (some ⟨B, 0, none⟩), .int .i64 n, .int .i64 k] w fun e w' => e = .returned (.int .i64 (sz b n k)) ∧ w' = w := by
  go_enter Try.func19, Try.ntmps19
  go_wp2
  go_ret
  exact ⟨rfl, rfl⟩

theorem sz_eq (b n k : Int) : sz b n k = wrap64 (4 * b + 4 * n + k + 68) := by unfold sz wrap64; omega
theorem step_n (b n k : Int) : sz b (wrap64 (n + 1)) k = wrap64 (sz b n k + 4) := by rw [sz_eq, sz_eq]; unfold wrap64; omega
theorem step_k (b n k : Int) : sz b n (wrap64 (k + 1)) = wrap64 (sz b n k + 1) := by rw [sz_eq, sz_eq]; unfold wrap64; omega
theorem step_b (b n k : Int) : sz (wrap64 (b + 1)) n k = wrap64 (sz b n k + 4) := by rw [sz_eq, sz_eq]; unfold wrap64; omega
theorem split_nk (b n1 k1 n2 k2 : Int) : wrap64 (sz b (wrap64 (n1 + n2)) (wrap64 (k1 + k2)) + sz b 0 0) = wrap64 (sz b n1 k1 + sz b n2 k2) := by
  rw [sz_eq, sz_eq, sz_eq, sz_eq]; unfold wrap64; omega
theorem empty_cost (b : Int) : sz b 0 0 = wrap64 (wrap64 (4 * b) + 68) := by rw [sz_eq]; unfold wrap64; omega
end Go.Proofs.Qxb6616228a
