import Derived.Test.Qxb6616228aCut
namespace Go.Proofs.Qxb6616228a
open Go.RowKit

set_option maxHeartbeats 1000000 in
theorem chg_nn (r : Int) (w : World) :
    Calls Try.prog 5 #[.slice none 0 0, .slice none 0 0, .int .i32 r] w fun e w' => e = .returned (.bool true) ∧ Below w.heap.size w w' := by
  have q0 := fun w => run_neq_slice_nil_any (P := Try.prog) w 35 21 none 0 0 0 0 Try.underlying35
  have q1 := fun w => run_neq_slice_nil_any (P := Try.prog) w 36 42 none 0 0 0 0 Try.underlying36
  go_enter Try.func5, Try.ntmps5
  go_wp2_with fail
  refine (bytes17_any _ _ _ _ _ _ _ _ (by omega) (by omega)).mono ?_
  rintro e w' ⟨rfl, rfl⟩
  go_wp2
  all_goals
    go_ret
    exact ⟨rfl, Below.refl _ _⟩

set_option maxHeartbeats 1000000 in
theorem chg_ns (x1 : Addr) (m cap1 : Nat) (c : Nat → Int) (r : Int) (w : World) (hM : m ≤ 65536) (h1 : ∀ i, i < m → w.cell? (x1.add i) = some (.int .u16 (c i))) :
    Calls Try.prog 5 #[.slice none 0 0, .slice (some x1) m cap1, .int .i32 r] w fun e w' => e = .returned (.bool true) ∧ Below w.heap.size w w' := by
  have q0 := fun w => run_neq_slice_nil_any (P := Try.prog) w 35 21 none 0 0 0 0 Try.underlying35
  have q1 := fun w => run_neq_slice_nil_any (P := Try.prog) w 36 42 (some x1) m cap1 0 0 Try.underlying36
  have H1 : Hid (∀ i, i < m → w.cell? (x1.add i) = some (.int .u16 (c i))) := h1
  clear h1
  go_enter Try.func5, Try.ntmps5
  go_wp2_with fail
  refine (bytes17_any _ _ _ _ _ _ _ _ (by omega) hM).mono ?_
  rintro e w' ⟨rfl, rfl⟩
  go_wp2_with (first
    | (at_make; refine wpList_make_row _ rfl _ _ 36 rfl 42 (.int .u16 0) 2 Try.underlying36 info42 .i64 .i64 m rfl rfl (by omega) (by omega) ?_; intro w3 hB3 hR3 hs3; have HS3 : Hid (w3.heap.size = w.heap.size + 1) := hs3; clear hs3)
    | ((with_reducible refine wpList_copy_lit (dT := 36) (sT := 36) 42 Try.underlying36 size42 w.heap.size m cap1 x1 42 hR3 (fun i => .int .u16 (c i)) (fun i hi => cell_later hB3 (H1.out i hi)) (fun _ => rfl) ?hd2 ?hs2 ?_); (case hd2 => rfl); (case hs2 => rfl); intro w4 hB4 hC4 hs4; have HS4 : Hid (w4.heap.size = w3.heap.size) := hs4; clear hs4 hC4))
  all_goals
    go_ret
    exact ⟨rfl, hB3.trans hB4⟩

set_option maxHeartbeats 1000000 in
theorem chg_sn0 (x0 : Addr) (n cap0 : Nat) (f : Nat → Int) (r : Int) (w : World) (hN : n ≤ 65536) (h0 : ∀ i, i < n → w.cell? (x0.add i) = some (.int .i32 (f i))) (e1 : ((n : Int) == 0) = true) :
    Calls Try.prog 5 #[.slice (some x0) n cap0, .slice none 0 0, .int .i32 r] w fun e w' => e = .returned (.bool true) ∧ Below w.heap.size w w' := by
  have q0 := fun w => run_neq_slice_nil_any (P := Try.prog) w 35 21 (some x0) n cap0 0 0 Try.underlying35
  have H0 : Hid (∀ i, i < n → w.cell? (x0.add i) = some (.int .i32 (f i))) := h0
  clear h0
  have q1 := fun w => run_neq_slice_nil_any (P := Try.prog) w 36 42 none 0 0 0 0 Try.underlying36
  go_enter Try.func5, Try.ntmps5
  go_wp2_with fail
  refine (bytes17_any _ _ _ _ _ _ _ _ hN (by omega)).mono ?_
  rintro e w' ⟨rfl, rfl⟩
  go_wp2_with (first
    | (at_make; refine wpList_make_row _ rfl _ _ 35 rfl 21 (.int .i32 0) 4 Try.underlying35 info21 .i64 .i64 n rfl rfl (by omega) (by omega) ?_; intro w1 hB1 hR1 hs1; have HS1 : Hid (w1.heap.size = w.heap.size + 1) := hs1; clear hs1)
    | ((with_reducible refine wpList_copy_lit (dT := 35) (sT := 35) 21 Try.underlying35 size21 w.heap.size n cap0 x0 21 hR1 (fun i => .int .i32 (f i)) (fun i hi => cell_later hB1 (H0.out i hi)) (fun _ => rfl) ?hd1 ?hs1 ?_); (case hd1 => rfl); (case hs1 => rfl); intro w2 hB2 hC2 hs2; have HS2 : Hid (w2.heap.size = w1.heap.size) := hs2; clear hs2 hC2))
  all_goals
    go_ret
    exact ⟨rfl, hB1.trans hB2⟩

set_option maxHeartbeats 1000000 in
theorem chg_sn1 (x0 : Addr) (n cap0 : Nat) (f : Nat → Int) (r : Int) (w : World) (hN : n ≤ 65536) (h0 : ∀ i, i < n → w.cell? (x0.add i) = some (.int .i32 (f i))) (e1 : ((n : Int) == 0) = false) (e2 : ((0 : Int) != (n : Int)) = true) :
    Calls Try.prog 5 #[.slice (some x0) n cap0, .slice none 0 0, .int .i32 r] w fun e w' => e = .returned (.bool true) ∧ Below w.heap.size w w' := by
  have q0 := fun w => run_neq_slice_nil_any (P := Try.prog) w 35 21 (some x0) n cap0 0 0 Try.underlying35
  have H0 : Hid (∀ i, i < n → w.cell? (x0.add i) = some (.int .i32 (f i))) := h0
  clear h0
  have q1 := fun w => run_neq_slice_nil_any (P := Try.prog) w 36 42 none 0 0 0 0 Try.underlying36
  go_enter Try.func5, Try.ntmps5
  go_wp2_with fail
  refine (bytes17_any _ _ _ _ _ _ _ _ hN (by omega)).mono ?_
  rintro e w' ⟨rfl, rfl⟩
  go_wp2_with (first
    | (at_make; refine wpList_make_row _ rfl _ _ 35 rfl 21 (.int .i32 0) 4 Try.underlying35 info21 .i64 .i64 n rfl rfl (by omega) (by omega) ?_; intro w1 hB1 hR1 hs1; have HS1 : Hid (w1.heap.size = w.heap.size + 1) := hs1; clear hs1)
    | ((with_reducible refine wpList_copy_lit (dT := 35) (sT := 35) 21 Try.underlying35 size21 w.heap.size n cap0 x0 21 hR1 (fun i => .int .i32 (f i)) (fun i hi => cell_later hB1 (H0.out i hi)) (fun _ => rfl) ?hd1 ?hs1 ?_); (case hd1 => rfl); (case hs1 => rfl); intro w2 hB2 hC2 hs2; have HS2 : Hid (w2.heap.size = w1.heap.size) := hs2; clear hs2 hC2))
  all_goals
    go_ret
    exact ⟨rfl, hB1.trans hB2⟩

set_option maxHeartbeats 1000000 in
theorem chg_ss0 (x0 : Addr) (n cap0 : Nat) (f : Nat → Int) (x1 : Addr) (m cap1 : Nat) (c : Nat → Int) (r : Int) (w : World) (hN : n ≤ 65536) (h0 : ∀ i, i < n → w.cell? (x0.add i) = some (.int .i32 (f i))) (hM : m ≤ 65536) (h1 : ∀ i, i < m → w.cell? (x1.add i) = some (.int .u16 (c i))) (e1 : ((n : Int) == 0) = true) :
    Calls Try.prog 5 #[.slice (some x0) n cap0, .slice (some x1) m cap1, .int .i32 r] w fun e w' => e = .returned (.bool true) ∧ Below w.heap.size w w' := by
  have q0 := fun w => run_neq_slice_nil_any (P := Try.prog) w 35 21 (some x0) n cap0 0 0 Try.underlying35
  have H0 : Hid (∀ i, i < n → w.cell? (x0.add i) = some (.int .i32 (f i))) := h0
  clear h0
  have q1 := fun w => run_neq_slice_nil_any (P := Try.prog) w 36 42 (some x1) m cap1 0 0 Try.underlying36
  have H1 : Hid (∀ i, i < m → w.cell? (x1.add i) = some (.int .u16 (c i))) := h1
  clear h1
  go_enter Try.func5, Try.ntmps5
  go_wp2_with fail
  refine (bytes17_any _ _ _ _ _ _ _ _ hN hM).mono ?_
  rintro e w' ⟨rfl, rfl⟩
  go_wp2_with (first
    | (at_make; refine wpList_make_row _ rfl _ _ 35 rfl 21 (.int .i32 0) 4 Try.underlying35 info21 .i64 .i64 n rfl rfl (by omega) (by omega) ?_; intro w1 hB1 hR1 hs1; have HS1 : Hid (w1.heap.size = w.heap.size + 1) := hs1; clear hs1)
    | ((with_reducible refine wpList_copy_lit (dT := 35) (sT := 35) 21 Try.underlying35 size21 w.heap.size n cap0 x0 21 hR1 (fun i => .int .i32 (f i)) (fun i hi => cell_later hB1 (H0.out i hi)) (fun _ => rfl) ?hd1 ?hs1 ?_); (case hd1 => rfl); (case hs1 => rfl); intro w2 hB2 hC2 hs2; have HS2 : Hid (w2.heap.size = w1.heap.size) := hs2; clear hs2 hC2)
    | (at_make; refine wpList_make_row _ rfl _ _ 36 rfl 42 (.int .u16 0) 2 Try.underlying36 info42 .i64 .i64 m rfl rfl (by omega) (by omega) ?_; intro w3 hB3 hR3 hs3; have HS3 : Hid (w3.heap.size = w2.heap.size + 1) := hs3; clear hs3)
    | ((with_reducible refine wpList_copy_lit (dT := 36) (sT := 36) 42 Try.underlying36 size42 w2.heap.size m cap1 x1 42 hR3 (fun i => .int .u16 (c i)) (fun i hi => cell_later hB3 (cell_two hB1 hB2 (H1.out i hi))) (fun _ => rfl) ?hd2 ?hs2 ?_); (case hd2 => rfl); (case hs2 => rfl); intro w4 hB4 hC4 hs4; have HS4 : Hid (w4.heap.size = w3.heap.size) := hs4; clear hs4 hC4))
  all_goals
    go_ret
    exact ⟨rfl, (hB1.trans hB2).trans ((hB3.trans hB4).mono (by have := HS2.out; have := HS1.out; omega))⟩

set_option maxHeartbeats 1000000 in
theorem chg_ss1 (x0 : Addr) (n cap0 : Nat) (f : Nat → Int) (x1 : Addr) (m cap1 : Nat) (c : Nat → Int) (r : Int) (w : World) (hN : n ≤ 65536) (h0 : ∀ i, i < n → w.cell? (x0.add i) = some (.int .i32 (f i))) (hM : m ≤ 65536) (h1 : ∀ i, i < m → w.cell? (x1.add i) = some (.int .u16 (c i))) (e1 : ((n : Int) == 0) = false) (e2 : ((m : Int) != (n : Int)) = true) :
    Calls Try.prog 5 #[.slice (some x0) n cap0, .slice (some x1) m cap1, .int .i32 r] w fun e w' => e = .returned (.bool true) ∧ Below w.heap.size w w' := by
  have q0 := fun w => run_neq_slice_nil_any (P := Try.prog) w 35 21 (some x0) n cap0 0 0 Try.underlying35
  have H0 : Hid (∀ i, i < n → w.cell? (x0.add i) = some (.int .i32 (f i))) := h0
  clear h0
  have q1 := fun w => run_neq_slice_nil_any (P := Try.prog) w 36 42 (some x1) m cap1 0 0 Try.underlying36
  have H1 : Hid (∀ i, i < m → w.cell? (x1.add i) = some (.int .u16 (c i))) := h1
  clear h1
  go_enter Try.func5, Try.ntmps5
  go_wp2_with fail
  refine (bytes17_any _ _ _ _ _ _ _ _ hN hM).mono ?_
  rintro e w' ⟨rfl, rfl⟩
  go_wp2_with (first
    | (at_make; refine wpList_make_row _ rfl _ _ 35 rfl 21 (.int .i32 0) 4 Try.underlying35 info21 .i64 .i64 n rfl rfl (by omega) (by omega) ?_; intro w1 hB1 hR1 hs1; have HS1 : Hid (w1.heap.size = w.heap.size + 1) := hs1; clear hs1)
    | ((with_reducible refine wpList_copy_lit (dT := 35) (sT := 35) 21 Try.underlying35 size21 w.heap.size n cap0 x0 21 hR1 (fun i => .int .i32 (f i)) (fun i hi => cell_later hB1 (H0.out i hi)) (fun _ => rfl) ?hd1 ?hs1 ?_); (case hd1 => rfl); (case hs1 => rfl); intro w2 hB2 hC2 hs2; have HS2 : Hid (w2.heap.size = w1.heap.size) := hs2; clear hs2 hC2)
    | (at_make; refine wpList_make_row _ rfl _ _ 36 rfl 42 (.int .u16 0) 2 Try.underlying36 info42 .i64 .i64 m rfl rfl (by omega) (by omega) ?_; intro w3 hB3 hR3 hs3; have HS3 : Hid (w3.heap.size = w2.heap.size + 1) := hs3; clear hs3)
    | ((with_reducible refine wpList_copy_lit (dT := 36) (sT := 36) 42 Try.underlying36 size42 w2.heap.size m cap1 x1 42 hR3 (fun i => .int .u16 (c i)) (fun i hi => cell_later hB3 (cell_two hB1 hB2 (H1.out i hi))) (fun _ => rfl) ?hd2 ?hs2 ?_); (case hd2 => rfl); (case hs2 => rfl); intro w4 hB4 hC4 hs4; have HS4 : Hid (w4.heap.size = w3.heap.size) := hs4; clear hs4 hC4))
  all_goals
    go_ret
    exact ⟨rfl, (hB1.trans hB2).trans ((hB3.trans hB4).mono (by have := HS2.out; have := HS1.out; omega))⟩

end Go.Proofs.Qxb6616228a
