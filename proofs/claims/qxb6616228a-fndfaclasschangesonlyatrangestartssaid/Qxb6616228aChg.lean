import Derived.Test.Qxb6616228aCut
namespace Go.Proofs.Qxb6616228a
open Go.RowKit

set_option maxHeartbeats 4000000 in
theorem chg_deep (x0 x1 : Addr) (n cap0 cap1 : Nat) (f c : Nat → Int) (r : Int) (w : World) (hn : 0 < n) (hN : n ≤ 65536)
    (h0 : ∀ i, i < n → w.cell? (x0.add i) = some (.int .i32 (f i))) (h1 : ∀ i, i < n → w.cell? (x1.add i) = some (.int .u16 (c i))) (hb : ∀ i, 0 ≤ c i ∧ c i ≤ 65535) (hlo : -2147483648 ≤ f 0) (hhi : r ≤ 2147483647) :
    Calls Try.prog 5 #[.slice (some x0) n cap0, .slice (some x1) n cap1, .int .i32 r] w fun e w' => e = .returned (.bool true) ∧ Below w.heap.size w w' := by
  have l1 : x1.block < w.heap.size := lt_of_cell (h1 0 hn)
  have hnI : (0 : Int) < n := by omega
  have q0 := fun w => run_neq_slice_nil_any (P := Try.prog) w 35 21 (some x0) n cap0 0 0 Try.underlying35
  have q1 := fun w => run_neq_slice_nil_any (P := Try.prog) w 36 42 (some x1) n cap1 0 0 Try.underlying36
  have H0 : Hid (∀ i, i < n → w.cell? (x0.add i) = some (.int .i32 (f i))) := h0
  have H1 : Hid (∀ i, i < n → w.cell? (x1.add i) = some (.int .u16 (c i))) := h1
  have HB : Hid (∀ i, 0 ≤ c i ∧ c i ≤ 65535) := hb
  clear h0 h1 hb
  go_enter Try.func5, Try.ntmps5
  go_wp2_with fail
  refine (bytes17_any _ _ _ _ _ _ _ _ hN hN).mono ?_
  rintro e w' ⟨rfl, rfl⟩
  go_wp2_with (first
    | (at_make; refine wpList_make_row _ rfl _ _ 35 rfl 21 (.int .i32 0) 4 Try.underlying35 info21 .i64 .i64 n rfl rfl (by omega) (by omega) ?_; intro w1 hB1 hR1 hs1; have HS1 : Hid (w1.heap.size = w.heap.size + 1) := hs1; clear hs1)
    | ((with_reducible refine wpList_copy_lit (dT := 35) (sT := 35) 21 Try.underlying35 size21 w.heap.size n cap0 x0 21 hR1 (fun i => .int .i32 (f i)) (fun i hi => cell_later hB1 (H0.out i hi)) (fun _ => rfl) ?hd1 ?hs1 ?_); (case hd1 => rfl); (case hs1 => rfl); intro w2 hB2 hC2 hs2; have HS2 : Hid (w2.heap.size = w1.heap.size) := hs2; have HC2 : Hid (∀ j, j < n → w2.cell? ⟨w.heap.size, j, none⟩ = some (.int .i32 (f j))) := hC2; clear hs2 hC2)
    | (at_make; refine wpList_make_row _ rfl _ _ 36 rfl 42 (.int .u16 0) 2 Try.underlying36 info42 .i64 .i64 n rfl rfl (by omega) (by omega) ?_; intro w3 hB3 hR3 hs3; have HS3 : Hid (w3.heap.size = w2.heap.size + 1) := hs3; clear hs3)
    | ((with_reducible refine wpList_copy_lit (dT := 36) (sT := 36) 42 Try.underlying36 size42 w2.heap.size n cap1 x1 42 hR3 (fun i => .int .u16 (c i)) (fun i hi => cell_later hB3 (cell_two hB1 hB2 (H1.out i hi))) (fun _ => rfl) ?hd2 ?hs2 ?_); (case hd2 => rfl); (case hs2 => rfl); intro w4 hB4 hC4 hs4; have HS4 : Hid (w4.heap.size = w3.heap.size) := hs4; have HC4 : Hid (∀ j, j < n → w4.cell? ⟨w2.heap.size, j, none⟩ = some (.int .u16 (c j))) := hC4; clear hs4 hC4))
  have z1 : w2.heap.size = w.heap.size + 1 := HS2.out.trans HS1.out
  have z4 : w4.heap.size = w2.heap.size + 1 := HS4.out.trans HS3.out
  have hB24 : Below w2.heap.size w2 w4 := hB3.trans hB4
  have hBw : Below w.heap.size w w4 := (hB1.trans hB2).trans (hB24.mono (by omega))
  have hF4 : ∀ j, j < n → w4.cell? ⟨w.heap.size, j, none⟩ = some (.int .i32 (f j)) := fun j hj => (hB24.cell (p := ⟨w.heap.size, j, none⟩) (by show w.heap.size < _; omega)).trans (HC2.out j hj)
  have hC4 := HC4.out
  clear hB1 hB2 hB3 hB4 hB24 hR1 hR3 HC2 HC4 HS1 HS2 HS3 HS4 H0 H1 l1 q0 q1
  refine (rising_any w.heap.size n n f w4 hN hF4).mono ?_
  rintro e w5 ⟨b, rfl, hr, k, rfl⟩
  have hBu : Below w.heap.size w (w4.drewN k) := below_drewN hBw k
  have hFu : ∀ j, j < n → (w4.drewN k).cell? ⟨w.heap.size, j, none⟩ = some (.int .i32 (f j)) := fun j hj => by simpa using hF4 j hj
  have hCu : ∀ j, j < n → (w4.drewN k).cell? ⟨w2.heap.size, j, none⟩ = some (.int .u16 (c j)) := fun j hj => by simpa using hC4 j hj
  have z0 : w.heap.size < (w4.drewN k).heap.size := by simp; omega
  have z2 : w2.heap.size < (w4.drewN k).heap.size := by simp; omega
  clear hF4 hC4 hBw z1 z4
  generalize w4.drewN k = u at *
  generalize w2.heap.size = g1 at *
  generalize hg0 : w.heap.size = g0 at *
  cases b with
  | false =>
    go_wp2
    go_ret
    exact ⟨rfl, by rw [hg0]; exact hBu⟩
  | true =>
    have hR := hr rfl
    have HR : Hid (Rising f n) := hR
    clear hr hR
    have c0 : u.cell? ⟨g0, 0, none⟩ = some (.int .i32 (f 0)) := hFu 0 hn
    have HF : Hid (∀ j, j < n → u.cell? ⟨g0, j, none⟩ = some (.int .i32 (f j))) := hFu
    have HC : Hid (∀ j, j < n → u.cell? ⟨g1, j, none⟩ = some (.int .u16 (c j))) := hCu
    clear hFu hCu
    by_cases hr0 : r < f 0
    · go_wp2
      go_ret
      exact ⟨rfl, by rw [hg0]; exact hBu⟩
    have hr0' : f 0 ≤ r := by omega
    clear hr0
    go_wp2_with fail
    refine (newC_any _ _ _ _ _ _ _).mono ?_
    rintro e v ⟨rfl, hBv, zv, d1, d2⟩
    have HFv : Hid (∀ j, j < n → v.cell? ⟨g0, j, none⟩ = some (.int .i32 (f j))) := fun j hj => cell_later hBv (HF.out j hj)
    have HCv : Hid (∀ j, j < n → v.cell? ⟨g1, j, none⟩ = some (.int .u16 (c j))) := fun j hj => cell_later hBv (HC.out j hj)
    have hBv' : Below g0 w v := hBu.trans (hBv.mono (by omega))
    generalize u.heap.size = d at *
    clear c0 HF HC hBu hBv zv u
    go_wp2_with fail
    refine (class16_any d g0 0 g1 0 n n n f c r v hn hN d1 d2 (fun j hj => by simpa using HFv.out j hj) (fun j hj => by simpa using HCv.out j hj) HB.out hr0').mono ?_
    rintro e v1 ⟨l1, a1, a2, a3, rfl, k1, rfl⟩
    have L1 : Hid (At f n r l1) := ⟨a1, a2, a3⟩
    clear a1 a2 a3
    have HFx : Hid (∀ j, j < n → (v.drewN k1).cell? ⟨g0, j, none⟩ = some (.int .i32 (f j))) := fun j hj => by simpa using HFv.out j hj
    have HCx : Hid (∀ j, j < n → (v.drewN k1).cell? ⟨g1, j, none⟩ = some (.int .u16 (c j))) := fun j hj => by simpa using HCv.out j hj
    have dx1 : (v.drewN k1).cell? ⟨d, 132, none⟩ = some (.slice (some ⟨g0, 0, none⟩) n n) := by simpa using d1
    have dx2 : (v.drewN k1).cell? ⟨d, 133, none⟩ = some (.slice (some ⟨g1, 0, none⟩) n n) := by simpa using d2
    have hBx : Below g0 w (v.drewN k1) := below_drewN hBv' k1
    clear HFv HCv hBv' d1 d2
    generalize v.drewN k1 = x at *
    -- r - 1, where r opens no range
    have KA : Hid ((∀ k, k < n → f k ≠ r) → Calls Try.prog 16 #[.pointer (some ⟨d, 0, none⟩), .int .i32 (r - 1)] x fun e w' => e = .returned (.int .i64 (c l1)) ∧ ∃ k, w' = x.drewN k) := fun hne => by
      have hp := At.pred L1.out hne
      refine (class16_any d g0 0 g1 0 n n n f c (r - 1) x hn hN dx1 dx2 (fun j hj => by simpa using HFx.out j hj) (fun j hj => by simpa using HCx.out j hj) HB.out (by have := hne 0 hn; omega)).mono ?_
      rintro e w' ⟨l, b1, b2, b3, rfl, k, rfl⟩
      rw [At.unique HR.out ⟨b1, b2, b3⟩ hp]
      exact ⟨rfl, k, rfl⟩
    clear dx1 dx2
    have hmin : -2147483648 ≤ f 0 := hlo
    go_wp2
    go_loop [12] (fun i => ∃ k : Nat, k ≤ n ∧ i = .int .i64 k ∧ ∀ t, t < k → f t ≠ r) (fun i => n - (intOf i).toNat)
    case atStart => exact ⟨0, Nat.zero_le _, rfl, fun t ht => absurd ht (Nat.not_lt_zero _)⟩
    case round =>
      obtain ⟨k, hk, rfl, hne⟩ := hrel
      have HNE : Hid (∀ t, t < k → f t ≠ r) := hne
      clear hne
      by_cases hlt : k < n
      · have hltI : (k : Int) < n := by omega
        have ck : x.cell? ⟨g0, k, none⟩ = some (.int .i32 (f k)) := HFx.out k hlt
        have kk : x.cell? ⟨g1, k, none⟩ = some (.int .u16 (c k)) := HCx.out k hlt
        have hcb := HB.out k
        by_cases heq : f k = r
        · have e0 : l1 = k := At.unique HR.out L1.out (by rw [← heq]; exact HR.out.place hlt)
          have e1 : (c l1 == c k) = true := by rw [e0]; simp
          have e2 : (f k == r) = true := by rw [heq]; simp
          clear heq e0
          go_wp2
          go_ret
          exact ⟨rfl, by first | exact hBx | (rw [hg0]; exact hBx)⟩
        · have e2 : (f k == r) = false := by simpa using heq
          have HEQ : Hid (¬ f k = r) := heq
          clear heq
          go_wp2
          go_round
          case rel =>
            refine ⟨k + 1, by omega, by go_num, fun t ht => ?_⟩
            by_cases e : t = k
            · rw [e]; exact HEQ.out
            · exact HNE.out t (by omega)
          case measure => simp [intOf]; omega
      · obtain rfl : k = n := by omega
        have hne0 := HNE.out 0 hn
        have hr1 : -2147483648 ≤ r - 1 := by omega
        have hr2 : r - 1 ≤ 2147483647 := by omega
        have KB := KA.out HNE.out
        clear hne0
        go_wp2_with fail
        refine KB.mono ?_
        rintro e t1 ⟨rfl, k3, rfl⟩
        have hBt : Below g0 w (x.drewN k3) := below_drewN hBx k3
        clear KB
        go_wp2
        go_ret
        exact ⟨rfl, by first | exact hBt | (rw [hg0]; exact hBt)⟩
end Go.Proofs.Qxb6616228a
