import Derived.Test.Qxb6617605aCat
import Derived.Test.Qxb6617605aLaws
import Derived.Test.Qxb6617605aPlain
import Derived.RegionTactic
namespace Go.Proofs.Qxb6617605a
open Go.RowKit

/-- a slice of segments: two cells an element -/
def PairRow (w : World) (a : Option Addr) (n : Nat) (ys : List (Int × Int)) : Prop :=
  n = 0 ∨ ∃ b off, a = some ⟨b, off, none⟩ ∧ ∀ j, j < n → w.cell? ⟨b, off + j * 2, none⟩ = some (.int .u64 (gAt ys j)) ∧ w.cell? ⟨b, off + j * 2 + 1, none⟩ = some (.int .i64 (lAt ys j))

/-- a row of n segments, the first k of them laid -/
def Laid (w : World) (g n k : Nat) (ys : List (Int × Int)) : Prop :=
  ∃ M : Array Value, w.heap[g]? = some (.cells M 37 (0, 0)) ∧ M.size = n * 2 ∧ ∀ j, j < k → M[j * 2]? = some (.int .u64 (gAt ys j)) ∧ M[j * 2 + 1]? = some (.int .i64 (lAt ys j))

theorem info37 : (Try.prog.info? 37).map (fun i => (i.zero, i.size, i.bytes)) = some (some (.agg #[.int .u64 0, .int .i64 0]), 2, 16) := by kernel_rfl

theorem Laid.step {w : World} {g n k : Nat} {ys : List (Int × Int)} (h : Laid w g n k ys) (hk : k < n) :
    Laid ((w.setCell ⟨g, k * 2, none⟩ (.int .u64 (gAt ys k))).setCell ⟨g, k * 2 + 1, none⟩ (.int .i64 (lAt ys k))).drew g n (k + 1) ys := by
  obtain ⟨M, hg, hM, hj⟩ := h
  have h1 := heap_setCell_same w g (k * 2) M 37 (.int .u64 (gAt ys k)) hg
  have h2 := heap_setCell_same _ g (k * 2 + 1) _ 37 (.int .i64 (lAt ys k)) h1
  refine ⟨_, h2, by simp [hM], fun j hjk => ?_⟩
  by_cases e : j = k
  · subst e
    refine ⟨?_, ?_⟩
    · simp [Array.getElem?_setIfInBounds]; omega
    · simp [Array.getElem?_setIfInBounds]; omega
  · have := hj j (by omega)
    refine ⟨?_, ?_⟩
    · rw [← this.1]; simp only [Array.getElem?_setIfInBounds]; rw [if_neg (by omega), if_neg (by omega)]
    · rw [← this.2]; simp only [Array.getElem?_setIfInBounds]; rw [if_neg (by omega), if_neg (by omega)]

theorem Laid.row {w : World} {g n : Nat} {ys : List (Int × Int)} (h : Laid w g n n ys) : PairRow w (some ⟨g, 0, none⟩) n ys := by
  obtain ⟨M, hg, hM, hj⟩ := h
  refine .inr ⟨g, 0, rfl, fun j hjn => ?_⟩
  simp only [Nat.zero_add]
  rw [cell_of_row hg, cell_of_row hg]
  exact hj j hjn

set_option maxHeartbeats 1000000 in
theorem zip_any (a b : Option Addr) (n c d : Nat) (ys : List (Int × Int)) (w : World) (hN : n ≤ 65536) (r1 : InRow w .u64 a n (gAt ys)) (r2 : InRow w .i64 b n (lAt ys)) :
    Calls Try.prog 8 #[.slice a n c, .slice b n d] w fun e w' => ∃ oa oc, e = .returned (.slice oa n oc) ∧ PairRow w' oa n ys ∧ Below w.heap.size w w' := by
  by_cases hn : 0 < n
  · obtain ⟨g1, o1, rfl, q1⟩ := r1.pos hn
    obtain ⟨g2, o2, rfl, q2⟩ := r2.pos hn
    clear r1 r2
    have Q1 : Hid (∀ j, j < n → w.cell? ⟨g1, o1 + j, none⟩ = some (.int .u64 (gAt ys j))) := q1
    have Q2 : Hid (∀ j, j < n → w.cell? ⟨g2, o2 + j, none⟩ = some (.int .i64 (lAt ys j))) := q2
    clear q1 q2
    have hq := fun w => Lib.run_eql_slice_nil (P := Try.prog) w 22 27 (some ⟨g1, o1, none⟩) n c 0 0 Try.underlying22
    go_enter Try.func8, Try.ntmps8
    go_wp2_with (at_make; refine wpList_make_row _ rfl _ _ 30 rfl 37 (.agg #[.int .u64 0, .int .i64 0]) 2 16 Try.underlying30 info37 .i64 .i64 n rfl rfl (by omega) (by omega) ?_; intro w1 hB1 hR1 hs1; have HS1 : Hid (w1.heap.size = w.heap.size + 1) := hs1; clear hs1)
    go_loopw [6] (fun i wr => ∃ k : Nat, k ≤ n ∧ i = .int .i64 k ∧ Laid wr w.heap.size n k ys ∧ Below w.heap.size w wr) (fun i _ => n - (intOf i).toNat)
    case atStart =>
      obtain ⟨M, hM, hg⟩ := hR1
      exact ⟨0, Nat.zero_le _, rfl, ⟨M, hg, hM, fun j hj => absurd hj (Nat.not_lt_zero _)⟩, hB1⟩
    case round =>
      obtain ⟨k, hk, rfl, hL, hB⟩ := hrel
      clear hB1 hR1 HS1
      by_cases hlt : k < n
      · have hltI : (k : Int) < n := by omega
        have p1 := cell_later hB (Q1.out k hlt)
        have p2 := cell_later hB (Q2.out k hlt)
        obtain ⟨M, hg, hM, hj⟩ := hL
        have HG : Hid (wr.heap[w.heap.size]? = some (.cells M 37 (0, 0))) := hg
        have HJ : Hid (∀ j, j < k → M[j * 2]? = some (.int .u64 (gAt ys j)) ∧ M[j * 2 + 1]? = some (.int .i64 (lAt ys j))) := hj
        clear hg hj
        obtain ⟨v0, c0⟩ : ∃ v0, wr.cell? ⟨w.heap.size, k * 2, none⟩ = some v0 := by rw [cell_of_row HG.out]; exact ⟨_, Array.getElem?_eq_getElem (by omega)⟩
        obtain ⟨v1, c1⟩ : ∃ v1, wr.cell? ⟨w.heap.size, k * 2 + 1, none⟩ = some v1 := by rw [cell_of_row HG.out]; exact ⟨_, Array.getElem?_eq_getElem (by omega)⟩
        have z0 := frozen_of_row wr w.heap.size (k * 2) M 37 HG.out
        have z1 := frozen_of_row wr w.heap.size (k * 2 + 1) M 37 HG.out
        have HS := Laid.step (w := wr) (g := w.heap.size) (n := n) (k := k) (ys := ys) ⟨M, HG.out, hM, HJ.out⟩ hlt
        have HS' : Hid _ := HS
        clear HS
        have HBB : Hid (Below w.heap.size w wr) := hB
        clear hB
        go_wp2
        go_region
        go_wp2
        go_roundw
        case rel => exact ⟨k + 1, by omega, by go_num, HS'.out, ((HBB.out.setCell (Nat.le_refl _) _).setCell (Nat.le_refl _) _).drew⟩
        case measure => simp [intOf]; omega
      · obtain rfl : k = n := by omega
        go_wp2
        go_ret
        exact ⟨_, _, rfl, hL.row, hB⟩
  · obtain rfl : n = 0 := by omega
    cases a with
    | none =>
      have hq := fun w => Lib.run_eql_slice_nil (P := Try.prog) w 22 27 none 0 c 0 0 Try.underlying22
      go_enter Try.func8, Try.ntmps8
      go_wp2
      go_ret
      exact ⟨_, _, rfl, .inl rfl, Below.refl _ _⟩
    | some x =>
      have hq := fun w => Lib.run_eql_slice_nil (P := Try.prog) w 22 27 (some x) 0 c 0 0 Try.underlying22
      go_enter Try.func8, Try.ntmps8
      go_wp2_with (at_make; refine wpList_make_row _ rfl _ _ 30 rfl 37 (.agg #[.int .u64 0, .int .i64 0]) 2 16 Try.underlying30 info37 .i64 .i64 0 rfl rfl (by omega) (by omega) ?_; intro w1 hB1 hR1 hs1; have HS1 : Hid (w1.heap.size = w.heap.size + 1) := hs1; clear hs1)
      refine wp_loop_rounds 1 ?_
      rw [rounds_succ]
      go_wp2
      go_ret
      exact ⟨_, _, rfl, .inl rfl, hB1⟩
end Go.Proofs.Qxb6617605a
