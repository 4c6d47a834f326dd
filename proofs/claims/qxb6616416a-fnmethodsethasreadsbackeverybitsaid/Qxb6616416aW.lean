import Derived.Test.Qxb6616416aProg
import Derived.WalkKit
import Derived.ProofKit
import Derived.Laws.BitsAllLaws
namespace Go.Proofs.Qxb6616416a
open Go.RowKit

/-! ## plain laws: no Go in sight -/
/-- what has been rebuilt of s behind k rounds -/
def rb (s k : Nat) : Nat := s % 2 ^ k
theorem rb_zero (s : Nat) : rb s 0 = 0 := by simp [rb, Nat.mod_one]
theorem rb_all (s : Nat) (hs : s < 65536) : rb s 16 = s := by simp [rb]; omega
theorem pow_le (k : Nat) (hk : k < 16) : 2 ^ k < 65536 := by
  have : 2 ^ k < 2 ^ 16 := Nat.pow_lt_pow_right (by omega) hk
  simpa using this
theorem rb_lt (s k : Nat) (hk : k < 16) : rb s k < 65536 := Nat.lt_trans (Nat.mod_lt _ (Nat.pow_pos (by omega))) (pow_le k hk)
theorem rb_succ (s k : Nat) : rb s (k + 1) = rb s k + 2 ^ k * (s / 2 ^ k % 2) := by
  unfold rb
  rw [Nat.pow_succ, Nat.mod_mul]
theorem rb_hit (s k : Nat) (h : s.testBit k = true) : rb s k ||| 2 ^ k = rb s (k + 1) := by
  rw [Nat.testBit_eq_decide_div_mod_eq, decide_eq_true_eq] at h
  rw [rb_succ, h, Nat.mul_one, Nat.or_comm, nat_join k (2 ^ k) (rb s k) (Nat.mod_self _) (Nat.mod_lt _ (Nat.pow_pos (by omega))), Nat.add_comm]
theorem rb_miss (s k : Nat) (h : s.testBit k = false) : rb s k = rb s (k + 1) := by
  rw [Nat.testBit_eq_decide_div_mod_eq, decide_eq_false_iff_not] at h
  have h' : s / 2 ^ k % 2 = 0 := by omega
  rw [rb_succ, h', Nat.mul_zero, Nat.add_zero]
theorem pow_wrap (k : Nat) (hk : k < 16) : IntKind.u16.wrap ((2 : Int) ^ k) = ((2 ^ k : Nat) : Int) := by
  have h := pow_le k hk
  rw [IntKind.wrap_u16]
  have e : (2 : Int) ^ k = ((2 ^ k : Nat) : Int) := by simp
  rw [e]
  generalize 2 ^ k = p at *
  omega
theorem and_bit (s k : Nat) (hs : s < 65536) (hk : k < 16) : (bits .and .u16 (s : Int) (IntKind.u16.wrap ((2 : Int) ^ k)) != 0) = s.testBit k := by
  rw [pow_wrap k hk, u16_and_nat s (2 ^ k) hs (pow_le k hk), nat_bit, Nat.testBit_eq_decide_div_mod_eq]
  have hp : 0 < 2 ^ k := Nat.pow_pos (by omega)
  generalize 2 ^ k = p at *
  rcases Nat.mod_two_eq_zero_or_one (s / p) with h | h
  · simp [h]
  · simp [h]; omega
theorem or_bit (s k : Nat) (hk : k < 16) (h : s.testBit k = true) : bits .or .u16 ((rb s k : Nat) : Int) (IntKind.u16.wrap ((2 : Int) ^ k)) = ((rb s (k + 1) : Nat) : Int) := by
  rw [pow_wrap k hk, u16_or_nat _ _ (rb_lt s k hk) (pow_le k hk), rb_hit s k h]
theorem shl_out (P : Program) (m : Int) (hm : 16 ≤ m) (w : World) : (Op.shift .shl .u16 1 .i64 m).run P w = .ok (.int .u16 0) w := by
  have e : min m.toNat 16 = 16 := by omega
  have h0 : ¬ m < 0 := by omega
  simp [Op.shift, h0, IntKind.bits, e, IntKind.wrap_u16]
theorem and_zero (s : Nat) (hs : s < 65536) : bits .and .u16 (s : Int) 0 = 0 := by
  have h := u16_and_nat s 0 hs (by omega)
  simpa using h

/-! ## the walks -/
theorem has_lt (s k : Nat) (w : World) (hs : s < 65536) (hk : k < 16) :
    Calls Try.prog 6 #[.int .u16 s, .int .i64 k] w fun e w' => e = .returned (.bool (s.testBit k)) ∧ w = w' := by
  go_enter Try.func6, Try.ntmps6
  go_wp2
  go_ret
  exact ⟨by rw [← and_bit s k hs hk]; rfl, rfl⟩
theorem has_ge (s : Nat) (m : Int) (w : World) (hs : s < 65536) (hk : 16 ≤ m) :
    Calls Try.prog 6 #[.int .u16 s, .int .i64 m] w fun e w' => e = .returned (.bool false) ∧ w = w' := by
  have h1 := shl_out Try.prog m hk
  have h2 := and_zero s hs
  go_enter Try.func6, Try.ntmps6
  go_wp2
  go_ret
  exact ⟨rfl, rfl⟩

theorem law_any (s : Nat) (m : Int) (w : World) (hs : s < 65536) :
    Calls Try.prog 3 #[.int .u16 s, .int .i64 m] w fun e w' => e = .returned (.bool true) ∧ w = w' := by
  by_cases hm : m < 0
  · go_enter Try.func3, Try.ntmps3
    go_wp2
    go_ret
    exact ⟨rfl, rfl⟩
  have hm0 : 0 ≤ m := by omega
  clear hm
  go_enter Try.func3, Try.ntmps3
  go_wp2
  go_loop [5, 6] (fun r i => ∃ k : Nat, k ≤ 16 ∧ i = .int .i64 k ∧ r = .int .u16 (rb s k : Nat)) (fun _ i => 16 - (intOf i).toNat)
  case atStart => exact ⟨0, by omega, rfl, by rw [rb_zero]; rfl⟩
  case round =>
    obtain ⟨k, hk, rfl, rfl⟩ := hrel
    by_cases hlt : k < 16
    · cases hb : s.testBit k with
      | true =>
        have HB : Hid (s.testBit k = true) := hb
        have K := has_lt s k w hs hlt
        rw [hb] at K
        clear hb
        go_wp2_with fail
        refine K.mono ?_
        rintro e w' ⟨rfl, rfl⟩
        clear K
        go_wp2
        go_round
        case rel => exact ⟨k + 1, by omega, by go_num, by rw [← or_bit s k hlt HB.out]⟩
        case measure => simp [intOf]; omega
      | false =>
        have HB : Hid (s.testBit k = false) := hb
        have K := has_lt s k w hs hlt
        rw [hb] at K
        clear hb
        go_wp2_with fail
        refine K.mono ?_
        rintro e w' ⟨rfl, rfl⟩
        clear K
        go_wp2
        go_round
        case rel => exact ⟨k + 1, by omega, by go_num, by rw [← rb_miss s k HB.out]⟩
        case measure => simp [intOf]; omega
    · obtain rfl : k = 16 := by omega
      have e1 : (((rb s 16 : Nat) : Int) == (s : Int)) = true := by rw [rb_all s hs]; simp
      by_cases h16 : m < 16
      · go_wp2
        go_ret
        exact ⟨rfl, rfl⟩
      · have h16' : 16 ≤ m := by omega
        have K := has_ge s m w hs h16'
        go_wp2_with fail
        refine K.mono ?_
        rintro e w' ⟨rfl, rfl⟩
        clear K
        go_wp2
        go_ret
        exact ⟨rfl, rfl⟩
end Go.Proofs.Qxb6616416a
