import Derived.Test.Qxb6617605aMain
namespace Go.Proofs.Qxb6617605a
open Go.RowKit

theorem zz0 (a b : Option Addr) (c d : Nat) (fl : Int) (w : World) :
    Calls Try.prog 5 #[.slice a 0 c, .slice b 0 d, .int .i64 fl] w fun e w' => ∃ a1 c1 a2 c2 a3 c3 a4 c4, e = .returned (.tuple #[.slice a1 0 c1, .slice a2 0 c2, .slice a3 0 c3, .slice a4 0 c4]) ∧ Below w.heap.size w w' := by
  refine (zz_at a b 0 c d [] fl w rfl (by omega) (.inl rfl) (.inl rfl)).mono ?_
  rintro e w' ⟨a1, c1, a2, c2, a3, c3, a4, c4, rfl, -, hB⟩
  exact ⟨a1, c1, a2, c2, a3, c3, a4, c4, rfl, hB⟩
theorem catU0 (a b d : Option Addr) (c1 c2 c3 : Nat) (w : World) : Calls Try.prog 6 #[.slice a 0 c1, .slice b 0 c2, .slice d 0 c3] w fun e w' => e = .returned (.bool true) ∧ ∃ k, w' = w.drewN k :=
  catU64_any a b d 0 0 0 c1 c2 c3 (fun _ => 0) (fun _ => 0) (fun _ => 0) w rfl (by omega) (.inl rfl) (.inl rfl) (.inl rfl) (fun _ _ => rfl) (fun _ _ => rfl)
theorem catI0 (a b d : Option Addr) (c1 c2 c3 : Nat) (w : World) : Calls Try.prog 7 #[.slice a 0 c1, .slice b 0 c2, .slice d 0 c3] w fun e w' => e = .returned (.bool true) ∧ ∃ k, w' = w.drewN k :=
  catI64_any a b d 0 0 0 c1 c2 c3 (fun _ => 0) (fun _ => 0) (fun _ => 0) w rfl (by omega) (.inl rfl) (.inl rfl) (.inl rfl) (fun _ _ => rfl) (fun _ _ => rfl)

set_option maxRecDepth 100000 in
set_option maxHeartbeats 4000000 in
theorem main_nn (fl : Int) (w : World) :
    Calls Try.prog 3 #[.slice none 0 0, .slice none 0 0, .int .i64 fl, .int .i64 0] w fun e w' => e = .returned (.bool true) ∧ Below w.heap.size w w' := by
  have q0 := fun w => run_neq_slice_nil_any (P := Try.prog) w 22 27 none 0 0 0 0 Try.underlying22
  have q1 := fun w => run_neq_slice_nil_any (P := Try.prog) w 23 2 none 0 0 0 0 Try.underlying23
  go_enter Try.func3, Try.ntmps3
  go_wp2_with fail
  refine (bytes_any _ _ _ _ _ _ _ _ _ (by omega) (by omega)).mono ?_
  rintro e w' ⟨rfl, rfl⟩
  go_wp2_with fail
  have HBw : Hid (Below w.heap.size w w) := Below.refl _ _
  clear q0 q1
  go_fit (zz0 _ _ _ _ _ _)
  rintro e w5 ⟨a1, c1, a2, c2, a3, c3, a4, c4, rfl, hB5⟩
  have HB5 : Hid (Below w.heap.size w w5) := HBw.out.trans (hB5.mono HBw.out.size)
  clear HBw hB5
  go_wp2
  refine wp_loop_rounds 1 ?_
  rw [rounds_succ]
  go_wp2
  go_region_with (go_at_call 5; go_must (go_fit (zz0 _ _ _ _ _ _)); rintro e y ⟨b1, e1, b2, e2, b3, e3, b4, e4, rfl, hBy⟩)
  have HBy : Hid (Below w.heap.size w y) := (HB5.out.drew).trans (hBy.mono HB5.out.size)
  clear HB5 hBy
  go_wp2
  go_region_with (go_at_call 5; go_must (go_fit (zz0 _ _ _ _ _ _)); rintro e z ⟨d1, h1, d2, h2, d3, h3, d4, h4, rfl, hBz⟩)
  have HBz : Hid (Below w.heap.size w z) := (HBy.out.drew).trans (hBz.mono HBy.out.size)
  clear HBy hBz
  go_wp2_with fail
  go_fit (catU0 _ _ _ _ _ _ _)
  rintro e z1 ⟨rfl, q1, rfl⟩
  go_wp2_with fail
  go_fit (catI0 _ _ _ _ _ _ _)
  rintro e z2 ⟨rfl, q2, rfl⟩
  go_wp2_with fail
  go_fit (catU0 _ _ _ _ _ _ _)
  rintro e z3 ⟨rfl, q3, rfl⟩
  go_wp2_with fail
  go_fit (catI0 _ _ _ _ _ _ _)
  rintro e z4 ⟨rfl, q4, rfl⟩
  go_wp2
  go_ret
  exact ⟨rfl, below_drewN HBz.out _⟩

set_option maxRecDepth 100000 in
set_option maxHeartbeats 4000000 in
theorem main_ns (x1 : Addr) (cap1 : Nat) (fl : Int) (w : World) :
    Calls Try.prog 3 #[.slice none 0 0, .slice (some x1) 0 cap1, .int .i64 fl, .int .i64 0] w fun e w' => e = .returned (.bool true) ∧ Below w.heap.size w w' := by
  have q0 := fun w => run_neq_slice_nil_any (P := Try.prog) w 22 27 none 0 0 0 0 Try.underlying22
  have q1 := fun w => run_neq_slice_nil_any (P := Try.prog) w 23 2 (some x1) 0 cap1 0 0 Try.underlying23
  go_enter Try.func3, Try.ntmps3
  go_wp2_with fail
  refine (bytes_any _ _ _ _ _ _ _ _ _ (by omega) (by omega)).mono ?_
  rintro e w' ⟨rfl, rfl⟩
  go_wp2_with (first
    | (at_make; refine wpList_make_row _ rfl _ _ 23 rfl 2 (.int .i64 0) 1 8 Try.underlying23 info2 .i64 .i64 0 rfl rfl (by omega) (by omega) ?_; intro w3 hB3 hR3 hs3; rw [Nat.mul_one] at hR3; have HS3 : Hid (w3.heap.size = w.heap.size + 1) := hs3; clear hs3)
    | ((with_reducible refine wpList_copy_lit (dT := 23) (sT := 23) 2 Try.underlying23 size2 w.heap.size 0 cap1 x1 2 hR3 (fun _ => .int .i64 0) (fun i hi => absurd hi (Nat.not_lt_zero _)) (fun _ => rfl) ?hd2 ?hs2 ?_); (case hd2 => rfl); (case hs2 => rfl); intro w4 hB4 hC4 hs4; have HS4 : Hid (w4.heap.size = w3.heap.size) := hs4; clear hs4 hC4))
  have HBw : Hid (Below w.heap.size w w4) := hB3.trans hB4
  clear hB3 hB4 hR3 HS3 HS4 q0 q1
  go_fit (zz0 _ _ _ _ _ _)
  rintro e w5 ⟨a1, c1, a2, c2, a3, c3, a4, c4, rfl, hB5⟩
  have HB5 : Hid (Below w.heap.size w w5) := HBw.out.trans (hB5.mono HBw.out.size)
  clear HBw hB5
  go_wp2
  refine wp_loop_rounds 1 ?_
  rw [rounds_succ]
  go_wp2
  go_region_with (go_at_call 5; go_must (go_fit (zz0 _ _ _ _ _ _)); rintro e y ⟨b1, e1, b2, e2, b3, e3, b4, e4, rfl, hBy⟩)
  have HBy : Hid (Below w.heap.size w y) := (HB5.out.drew).trans (hBy.mono HB5.out.size)
  clear HB5 hBy
  go_wp2
  go_region_with (go_at_call 5; go_must (go_fit (zz0 _ _ _ _ _ _)); rintro e z ⟨d1, h1, d2, h2, d3, h3, d4, h4, rfl, hBz⟩)
  have HBz : Hid (Below w.heap.size w z) := (HBy.out.drew).trans (hBz.mono HBy.out.size)
  clear HBy hBz
  go_wp2_with fail
  go_fit (catU0 _ _ _ _ _ _ _)
  rintro e z1 ⟨rfl, q1, rfl⟩
  go_wp2_with fail
  go_fit (catI0 _ _ _ _ _ _ _)
  rintro e z2 ⟨rfl, q2, rfl⟩
  go_wp2_with fail
  go_fit (catU0 _ _ _ _ _ _ _)
  rintro e z3 ⟨rfl, q3, rfl⟩
  go_wp2_with fail
  go_fit (catI0 _ _ _ _ _ _ _)
  rintro e z4 ⟨rfl, q4, rfl⟩
  go_wp2
  go_ret
  exact ⟨rfl, below_drewN HBz.out _⟩

set_option maxRecDepth 100000 in
set_option maxHeartbeats 4000000 in
theorem main_sn (x0 : Addr) (cap0 : Nat) (fl : Int) (w : World) :
    Calls Try.prog 3 #[.slice (some x0) 0 cap0, .slice none 0 0, .int .i64 fl, .int .i64 0] w fun e w' => e = .returned (.bool true) ∧ Below w.heap.size w w' := by
  have q0 := fun w => run_neq_slice_nil_any (P := Try.prog) w 22 27 (some x0) 0 cap0 0 0 Try.underlying22
  have q1 := fun w => run_neq_slice_nil_any (P := Try.prog) w 23 2 none 0 0 0 0 Try.underlying23
  go_enter Try.func3, Try.ntmps3
  go_wp2_with fail
  refine (bytes_any _ _ _ _ _ _ _ _ _ (by omega) (by omega)).mono ?_
  rintro e w' ⟨rfl, rfl⟩
  go_wp2_with (first
    | (at_make; refine wpList_make_row _ rfl _ _ 22 rfl 27 (.int .u64 0) 1 8 Try.underlying22 info27 .i64 .i64 0 rfl rfl (by omega) (by omega) ?_; intro w1 hB1 hR1 hs1; rw [Nat.mul_one] at hR1; have HS1 : Hid (w1.heap.size = w.heap.size + 1) := hs1; clear hs1)
    | ((with_reducible refine wpList_copy_lit (dT := 22) (sT := 22) 27 Try.underlying22 size27 w.heap.size 0 cap0 x0 27 hR1 (fun _ => .int .u64 0) (fun i hi => absurd hi (Nat.not_lt_zero _)) (fun _ => rfl) ?hd1 ?hs1 ?_); (case hd1 => rfl); (case hs1 => rfl); intro w2 hB2 hC2 hs2; have HS2 : Hid (w2.heap.size = w1.heap.size) := hs2; clear hs2 hC2))
  have HBw : Hid (Below w.heap.size w w2) := hB1.trans hB2
  clear hB1 hB2 hR1 HS1 HS2 q0 q1
  go_fit (zz0 _ _ _ _ _ _)
  rintro e w5 ⟨a1, c1, a2, c2, a3, c3, a4, c4, rfl, hB5⟩
  have HB5 : Hid (Below w.heap.size w w5) := HBw.out.trans (hB5.mono HBw.out.size)
  clear HBw hB5
  go_wp2
  refine wp_loop_rounds 1 ?_
  rw [rounds_succ]
  go_wp2
  go_region_with (go_at_call 5; go_must (go_fit (zz0 _ _ _ _ _ _)); rintro e y ⟨b1, e1, b2, e2, b3, e3, b4, e4, rfl, hBy⟩)
  have HBy : Hid (Below w.heap.size w y) := (HB5.out.drew).trans (hBy.mono HB5.out.size)
  clear HB5 hBy
  go_wp2
  go_region_with (go_at_call 5; go_must (go_fit (zz0 _ _ _ _ _ _)); rintro e z ⟨d1, h1, d2, h2, d3, h3, d4, h4, rfl, hBz⟩)
  have HBz : Hid (Below w.heap.size w z) := (HBy.out.drew).trans (hBz.mono HBy.out.size)
  clear HBy hBz
  go_wp2_with fail
  go_fit (catU0 _ _ _ _ _ _ _)
  rintro e z1 ⟨rfl, q1, rfl⟩
  go_wp2_with fail
  go_fit (catI0 _ _ _ _ _ _ _)
  rintro e z2 ⟨rfl, q2, rfl⟩
  go_wp2_with fail
  go_fit (catU0 _ _ _ _ _ _ _)
  rintro e z3 ⟨rfl, q3, rfl⟩
  go_wp2_with fail
  go_fit (catI0 _ _ _ _ _ _ _)
  rintro e z4 ⟨rfl, q4, rfl⟩
  go_wp2
  go_ret
  exact ⟨rfl, below_drewN HBz.out _⟩

set_option maxRecDepth 100000 in
set_option maxHeartbeats 4000000 in
theorem main_ss (x0 : Addr) (cap0 : Nat) (x1 : Addr) (cap1 : Nat) (fl : Int) (w : World) :
    Calls Try.prog 3 #[.slice (some x0) 0 cap0, .slice (some x1) 0 cap1, .int .i64 fl, .int .i64 0] w fun e w' => e = .returned (.bool true) ∧ Below w.heap.size w w' := by
  have q0 := fun w => run_neq_slice_nil_any (P := Try.prog) w 22 27 (some x0) 0 cap0 0 0 Try.underlying22
  have q1 := fun w => run_neq_slice_nil_any (P := Try.prog) w 23 2 (some x1) 0 cap1 0 0 Try.underlying23
  go_enter Try.func3, Try.ntmps3
  go_wp2_with fail
  refine (bytes_any _ _ _ _ _ _ _ _ _ (by omega) (by omega)).mono ?_
  rintro e w' ⟨rfl, rfl⟩
  go_wp2_with (first
    | (at_make; refine wpList_make_row _ rfl _ _ 22 rfl 27 (.int .u64 0) 1 8 Try.underlying22 info27 .i64 .i64 0 rfl rfl (by omega) (by omega) ?_; intro w1 hB1 hR1 hs1; rw [Nat.mul_one] at hR1; have HS1 : Hid (w1.heap.size = w.heap.size + 1) := hs1; clear hs1)
    | ((with_reducible refine wpList_copy_lit (dT := 22) (sT := 22) 27 Try.underlying22 size27 w.heap.size 0 cap0 x0 27 hR1 (fun _ => .int .u64 0) (fun i hi => absurd hi (Nat.not_lt_zero _)) (fun _ => rfl) ?hd1 ?hs1 ?_); (case hd1 => rfl); (case hs1 => rfl); intro w2 hB2 hC2 hs2; have HS2 : Hid (w2.heap.size = w1.heap.size) := hs2; clear hs2 hC2)
    | (at_make; refine wpList_make_row _ rfl _ _ 23 rfl 2 (.int .i64 0) 1 8 Try.underlying23 info2 .i64 .i64 0 rfl rfl (by omega) (by omega) ?_; intro w3 hB3 hR3 hs3; rw [Nat.mul_one] at hR3; have HS3 : Hid (w3.heap.size = w2.heap.size + 1) := hs3; clear hs3)
    | ((with_reducible refine wpList_copy_lit (dT := 23) (sT := 23) 2 Try.underlying23 size2 w2.heap.size 0 cap1 x1 2 hR3 (fun _ => .int .i64 0) (fun i hi => absurd hi (Nat.not_lt_zero _)) (fun _ => rfl) ?hd2 ?hs2 ?_); (case hd2 => rfl); (case hs2 => rfl); intro w4 hB4 hC4 hs4; have HS4 : Hid (w4.heap.size = w3.heap.size) := hs4; clear hs4 hC4))
  have HBw : Hid (Below w.heap.size w w4) := (hB1.trans hB2).trans ((hB3.trans hB4).mono (by have := HS2.out; have := HS1.out; omega))
  clear hB1 hB2 hB3 hB4 hR1 hR3 HS1 HS2 HS3 HS4 q0 q1
  go_fit (zz0 _ _ _ _ _ _)
  rintro e w5 ⟨a1, c1, a2, c2, a3, c3, a4, c4, rfl, hB5⟩
  have HB5 : Hid (Below w.heap.size w w5) := HBw.out.trans (hB5.mono HBw.out.size)
  clear HBw hB5
  go_wp2
  refine wp_loop_rounds 1 ?_
  rw [rounds_succ]
  go_wp2
  go_region_with (go_at_call 5; go_must (go_fit (zz0 _ _ _ _ _ _)); rintro e y ⟨b1, e1, b2, e2, b3, e3, b4, e4, rfl, hBy⟩)
  have HBy : Hid (Below w.heap.size w y) := (HB5.out.drew).trans (hBy.mono HB5.out.size)
  clear HB5 hBy
  go_wp2
  go_region_with (go_at_call 5; go_must (go_fit (zz0 _ _ _ _ _ _)); rintro e z ⟨d1, h1, d2, h2, d3, h3, d4, h4, rfl, hBz⟩)
  have HBz : Hid (Below w.heap.size w z) := (HBy.out.drew).trans (hBz.mono HBy.out.size)
  clear HBy hBz
  go_wp2_with fail
  go_fit (catU0 _ _ _ _ _ _ _)
  rintro e z1 ⟨rfl, q1, rfl⟩
  go_wp2_with fail
  go_fit (catI0 _ _ _ _ _ _ _)
  rintro e z2 ⟨rfl, q2, rfl⟩
  go_wp2_with fail
  go_fit (catU0 _ _ _ _ _ _ _)
  rintro e z3 ⟨rfl, q3, rfl⟩
  go_wp2_with fail
  go_fit (catI0 _ _ _ _ _ _ _)
  rintro e z4 ⟨rfl, q4, rfl⟩
  go_wp2
  go_ret
  exact ⟨rfl, below_drewN HBz.out _⟩

end Go.Proofs.Qxb6617605a
