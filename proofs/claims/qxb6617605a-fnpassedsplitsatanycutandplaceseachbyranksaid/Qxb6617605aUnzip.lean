import Derived.Test.Qxb6617605aPassed
namespace Go.Proofs.Qxb6617605a
open Go.RowKit

/-- a row of n numbers, the first i of them laid -/
def LaidI (w : World) (g : Nat) (t : TypeId) (k : IntKind) (n i : Nat) (f : Nat → Int) : Prop :=
  ∃ M : Array Value, w.heap[g]? = some (.cells M t (0, 0)) ∧ M.size = n ∧ ∀ j, j < i → M[j]? = some (.int k (f j))

theorem LaidI.step {w : World} {g : Nat} {t : TypeId} {k : IntKind} {n i : Nat} {f : Nat → Int} (h : LaidI w g t k n i f) (hi : i < n) : LaidI (w.setCell ⟨g, i, none⟩ (.int k (f i))) g t k n (i + 1) f := by
  obtain ⟨M, hg, hM, hj⟩ := h
  refine ⟨_, heap_setCell_same w g i M t _ hg, by simp [hM], fun j hjk => ?_⟩
  by_cases e : j = i
  · subst e
    simp [Array.getElem?_setIfInBounds]; omega
  · have := hj j (by omega)
    rw [← this]; simp only [Array.getElem?_setIfInBounds]; rw [if_neg (by omega)]
theorem LaidI.other {w : World} {g : Nat} {t : TypeId} {k : IntKind} {n i : Nat} {f : Nat → Int} (h : LaidI w g t k n i f) (a : Addr) (v : Value) (hne : g ≠ a.block) : LaidI (w.setCell a v) g t k n i f := by
  obtain ⟨M, hg, hM, hj⟩ := h
  exact ⟨M, by rw [heap_setCell_other w a g v hne]; exact hg, hM, hj⟩
theorem LaidI.cell {w : World} {g : Nat} {t : TypeId} {k : IntKind} {n i : Nat} {f : Nat → Int} (h : LaidI w g t k n i f) (hi : i < n) : ∃ v, w.cell? ⟨g, i, none⟩ = some v := by
  obtain ⟨M, hg, hM, hj⟩ := h
  rw [cell_of_row hg]; exact ⟨_, Array.getElem?_eq_getElem (by omega)⟩
theorem LaidI.free {w : World} {g : Nat} {t : TypeId} {k : IntKind} {n i : Nat} {f : Nat → Int} (h : LaidI w g t k n i f) : w.frozen? ⟨g, i, none⟩ = false := by
  obtain ⟨M, hg, hM, hj⟩ := h
  exact frozen_of_row w g i M t hg
theorem LaidI.row {w : World} {g : Nat} {t : TypeId} {k : IntKind} {n : Nat} {f : Nat → Int} (h : LaidI w g t k n n f) : InRow w k (some ⟨g, 0, none⟩) n f := by
  obtain ⟨M, hg, hM, hj⟩ := h
  refine .inr ⟨g, 0, rfl, fun j hjn => ?_⟩
  rw [Nat.zero_add, cell_of_row hg]
  exact hj j hjn
theorem lt_of_cell {w : World} {a : Addr} {v : Value} (h : w.cell? a = some v) : a.block < w.heap.size := by
  by_cases hl : a.block < w.heap.size
  · exact hl
  · exfalso
    have e : w.heap[a.block]? = none := by simp; omega
    simp [World.cell?, e] at h

theorem info27 : (Try.prog.info? 27).map (fun i => (i.zero, i.size, i.bytes)) = some (some (.int .u64 0), 1, 8) := by kernel_rfl
theorem info2 : (Try.prog.info? 2).map (fun i => (i.zero, i.size, i.bytes)) = some (some (.int .i64 0), 1, 8) := by kernel_rfl

set_option maxHeartbeats 2000000 in
theorem unzip_any (a : Option Addr) (n c : Nat) (ys : List (Int × Int)) (w : World) (hN : n ≤ 65536) (r : PairRow w a n ys) :
    Calls Try.prog 10 #[.slice a n c] w fun e w' => ∃ a1 c1 a2 c2, e = .returned (.tuple #[.slice a1 n c1, .slice a2 n c2]) ∧ InRow w' .u64 a1 n (gAt ys) ∧ InRow w' .i64 a2 n (lAt ys) ∧ Below w.heap.size w w' := by
  by_cases hn : 0 < n
  · obtain ⟨b, off, rfl, q⟩ : ∃ b off, a = some ⟨b, off, none⟩ ∧ ∀ j, j < n → w.cell? ⟨b, off + j * 2, none⟩ = some (.int .u64 (gAt ys j)) ∧ w.cell? ⟨b, off + j * 2 + 1, none⟩ = some (.int .i64 (lAt ys j)) := by
      rcases r with h | h
      · omega
      · exact h
    clear r
    have hbl : b < w.heap.size := lt_of_cell (q 0 hn).1
    have Q : Hid (∀ j, j < n → w.cell? ⟨b, off + j * 2, none⟩ = some (.int .u64 (gAt ys j)) ∧ w.cell? ⟨b, off + j * 2 + 1, none⟩ = some (.int .i64 (lAt ys j))) := q
    clear q
    have hq := fun w => Lib.run_eql_slice_nil (P := Try.prog) w 30 37 (some ⟨b, off, none⟩) n c 0 0 Try.underlying30
    go_enter Try.func10, Try.ntmps10
    go_wp2_with (first
      | (at_make; refine wpList_make_row _ rfl _ _ 22 rfl 27 (.int .u64 0) 1 8 Try.underlying22 info27 .i64 .i64 n rfl rfl (by omega) (by omega) ?_; intro w1 hB1 hR1 hs1; have HS1 : Hid (w1.heap.size = w.heap.size + 1) := hs1; clear hs1)
      | (at_make; refine wpList_make_row _ rfl _ _ 23 rfl 2 (.int .i64 0) 1 8 Try.underlying23 info2 .i64 .i64 n rfl rfl (by omega) (by omega) ?_; intro w2 hB2 hR2 hs2; have HS2 : Hid (w2.heap.size = w1.heap.size + 1) := hs2; clear hs2))
    have hgg : w.heap.size < w1.heap.size := by have := HS1.out; omega
    have Bw2 : Below w.heap.size w w2 := hB1.trans (hB2.mono (by omega))
    have L1 : LaidI w2 w.heap.size 27 .u64 n 0 (gAt ys) := by
      obtain ⟨M, hM, hg⟩ := hR1
      exact ⟨M, by rw [hB2.block _ hgg]; exact hg, by omega, fun j hj => absurd hj (Nat.not_lt_zero _)⟩
    have L2 : LaidI w2 w1.heap.size 2 .i64 n 0 (lAt ys) := by
      obtain ⟨M, hM, hg⟩ := hR2
      exact ⟨M, hg, by omega, fun j hj => absurd hj (Nat.not_lt_zero _)⟩
    clear hR1 hR2 HS1 HS2 hB1 hB2
    generalize w1.heap.size = g2 at *
    go_loopw [6] (fun i wr => ∃ k : Nat, k ≤ n ∧ i = .int .i64 k ∧ LaidI wr w.heap.size 27 .u64 n k (gAt ys) ∧ LaidI wr g2 2 .i64 n k (lAt ys) ∧ Below w.heap.size w wr) (fun i _ => n - (intOf i).toNat)
    case atStart => exact ⟨0, Nat.zero_le _, rfl, L1, L2, Bw2⟩
    case round =>
      obtain ⟨k, hk, rfl, hL1, hL2, hB⟩ := hrel
      clear L1 L2 Bw2
      by_cases hlt : k < n
      · have hltI : (k : Int) < n := by omega
        have p1 := cell_later hB (Q.out k hlt).1
        have p2 := cell_later hB (Q.out k hlt).2
        obtain ⟨v1, c1⟩ := hL1.cell hlt
        obtain ⟨v2, c2⟩ := hL2.cell hlt
        have z1 := hL1.free
        have z2 := hL2.free
        have hS1 := (hL1.step hlt).other ⟨g2, k, none⟩ (.int .i64 (lAt ys k)) (by simp; omega)
        have hS2 := (hL2.other ⟨w.heap.size, k, none⟩ (.int .u64 (gAt ys k)) (by simp; omega)).step hlt
        have hB' : Below w.heap.size w ((wr.setCell ⟨w.heap.size, k, none⟩ (.int .u64 (gAt ys k))).setCell ⟨g2, k, none⟩ (.int .i64 (lAt ys k))) := (hB.setCell (Nat.le_refl _) _).setCell (by simp; omega) _
        have S : Hid (_ ∧ _ ∧ _) := ⟨hS1, hS2, hB'⟩
        clear hS1 hS2 hB' hL1 hL2 hB
        go_wp2
        go_roundw
        case rel => exact ⟨k + 1, by omega, by go_num, S.out⟩
        case measure => simp [intOf]; omega
      · obtain rfl : k = n := by omega
        go_wp2
        go_ret2
        exact ⟨_, _, _, _, rfl, hL1.row, hL2.row, hB⟩
  · obtain rfl : n = 0 := by omega
    cases a with
    | none =>
      have hq := fun w => Lib.run_eql_slice_nil (P := Try.prog) w 30 37 none 0 c 0 0 Try.underlying30
      go_enter Try.func10, Try.ntmps10
      go_wp2
      go_ret2
      exact ⟨_, _, _, _, rfl, .inl rfl, .inl rfl, Below.refl _ _⟩
    | some x =>
      have hq := fun w => Lib.run_eql_slice_nil (P := Try.prog) w 30 37 (some x) 0 c 0 0 Try.underlying30
      go_enter Try.func10, Try.ntmps10
      go_wp2_with (first
        | (at_make; refine wpList_make_row _ rfl _ _ 22 rfl 27 (.int .u64 0) 1 8 Try.underlying22 info27 .i64 .i64 0 rfl rfl (by omega) (by omega) ?_; intro w1 hB1 hR1 hs1; have HS1 : Hid (w1.heap.size = w.heap.size + 1) := hs1; clear hs1)
        | (at_make; refine wpList_make_row _ rfl _ _ 23 rfl 2 (.int .i64 0) 1 8 Try.underlying23 info2 .i64 .i64 0 rfl rfl (by omega) (by omega) ?_; intro w2 hB2 hR2 hs2; have HS2 : Hid (w2.heap.size = w1.heap.size + 1) := hs2; clear hs2))
      refine wp_loop_rounds 1 ?_
      rw [rounds_succ]
      go_wp2
      go_ret2
      exact ⟨_, _, _, _, rfl, .inl rfl, .inl rfl, hB1.trans (hB2.mono (by have := HS1.out; omega))⟩
end Go.Proofs.Qxb6617605a
