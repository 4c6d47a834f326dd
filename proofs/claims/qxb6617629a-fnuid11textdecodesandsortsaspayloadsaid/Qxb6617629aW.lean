import Derived.Test.Qxb6617629aProg
import Derived.Test.Qxb6617629aPlain
import Derived.WalkKit
import Derived.ProofKit
import Derived.Deep.QuietTactic
import Derived.BigQuiet
import Derived.RegionTactic
import Derived.WalkSpells
import Derived.WalkSmall
namespace Go.Proofs.Qxb6617629a
open Go.RowKit

theorem ret_two {k : IntKind} {a b : Int} {c : Bool} (h : a = b) : Ending.returned (.tuple #[.int k a, .bool c]) = .returned (.tuple #[.int k b, .bool c]) := by rw [h]

set_option maxHeartbeats 1000000 in
theorem digit_any (d : Nat) (hd : d ≤ 57) (w : World) : Calls Try.prog 8 #[.int .u8 (sym d)] w fun e w' => e = .returned (.tuple #[.int .u64 d, .bool true]) ∧ w = w' := by
  by_cases h1 : d ≤ 8
  · have e : sym d = 49 + d := by simp [sym, h1]
    rw [e]
    go_enter Try.func8, Try.ntmps8
    go_wp2
    go_ret2
    exact ⟨ret_two (by omega), rfl⟩
  by_cases h2 : d ≤ 16
  · have e : sym d = 56 + d := by simp [sym, h1, h2]
    rw [e]
    go_enter Try.func8, Try.ntmps8
    go_wp2
    go_ret2
    exact ⟨ret_two (by omega), rfl⟩
  by_cases h3 : d ≤ 21
  · have e : sym d = 57 + d := by simp [sym, h1, h2, h3]
    rw [e]
    go_enter Try.func8, Try.ntmps8
    go_wp2
    go_ret2
    exact ⟨ret_two (by omega), rfl⟩
  by_cases h4 : d ≤ 32
  · have e : sym d = 58 + d := by simp [sym, h1, h2, h3, h4]
    rw [e]
    go_enter Try.func8, Try.ntmps8
    go_wp2
    go_ret2
    exact ⟨ret_two (by omega), rfl⟩
  by_cases h5 : d ≤ 43
  · have e : sym d = 64 + d := by simp [sym, h1, h2, h3, h4, h5]
    rw [e]
    go_enter Try.func8, Try.ntmps8
    go_wp2
    go_ret2
    exact ⟨ret_two (by omega), rfl⟩
  · have e : sym d = 65 + d := by simp [sym, h1, h2, h3, h4, h5]
    rw [e]
    go_enter Try.func8, Try.ntmps8
    go_wp2
    go_ret2
    exact ⟨ret_two (by omega), rfl⟩

/-- block B holds the text of u -/
def Text (w : World) (B u : Nat) : Prop := ∀ j, j < 11 → w.cell? ⟨B, j, none⟩ = some (.int .u8 (tx u j))

set_option maxHeartbeats 1000000 in
theorem decode_any (B u : Nat) (hu : u < 18446744073709551616) (w : World) (hT : Text w B u) : Calls Try.prog 5 #[.pointer (some ⟨B, 0, none⟩)] w fun e w' => e = .returned (.tuple #[.int .u64 u, .bool true]) ∧ w = w' := by
  have HT : Hid (Text w B u) := hT
  clear hT
  go_enter Try.func5, Try.ntmps5
  go_wp2
  go_loop [4, 5] (fun v i => ∃ k : Nat, k ≤ 11 ∧ i = .int .i64 k ∧ v = .int .u64 (hi u k : Nat)) (fun _ i => 11 - (intOf i).toNat)
  case atStart => exact ⟨0, by omega, rfl, by rw [hi_none u hu]; rfl⟩
  case round =>
    obtain ⟨k, hk, rfl, rfl⟩ := hrel
    by_cases hlt : k < 11
    · have hltI : (k : Int) < 11 := by omega
      have p := HT.out k hlt
      have K := digit_any (dg u k) (dg_le u k) w
      have hd := dg_le u k
      have hs := hi_dg u k hlt
      have hb := hi_le u (k + 1)
      have hx : (hi u k : Int) * 58 + (dg u k : Int) ≤ 18446744073709551615 := by omega
      have HS : Hid (hi u (k + 1) = hi u k * 58 + dg u k) := hs
      have hy : (hi u k : Int) ≤ (18446744073709551615 - (dg u k : Int)) / 58 := by omega
      clear hs hb
      go_wp2_with fail
      refine K.mono ?_
      rintro e w' ⟨rfl, rfl⟩
      clear K
      go_wp2
      go_round
      case rel => exact ⟨k + 1, by omega, by go_num, by rw [HS.out]; go_num⟩
      case measure => simp [intOf]; omega
    · obtain rfl : k = 11 := by omega
      have e := hi_all u
      go_wp2
      go_ret2
      exact ⟨ret_two (by omega), rfl⟩

theorem ret_int {k : IntKind} {a b : Int} (h : a = b) : Ending.returned (.int k a) = .returned (.int k b) := by rw [h]

set_option maxHeartbeats 1000000 in
theorem compare_any (A B a b : Nat) (w : World) (ha : a < 18446744073709551616) (hb : b < 18446744073709551616) (hA : Text w A a) (hB : Text w B b) :
    Calls Try.prog 6 #[.pointer (some ⟨A, 0, none⟩), .pointer (some ⟨B, 0, none⟩)] w fun e w' => e = .returned (.int .i64 (cmp a b)) ∧ ∃ q, w' = w.drewN q := by
  have HA : Hid (Text w A a) := hA
  have HB : Hid (Text w B b) := hB
  have H0 : Hid (hi a 0 = hi b 0) := (hi_none a ha).trans (hi_none b hb).symm
  clear hA hB ha hb
  go_enter Try.func6, Try.ntmps6
  go_wp2
  go_loopw [5] (fun i wr => ∃ k : Nat, k ≤ 11 ∧ i = .int .i64 k ∧ Hid (hi a k = hi b k) ∧ ∃ q, wr = w.drewN q) (fun i _ => 11 - (intOf i).toNat)
  case atStart => exact ⟨0, by omega, rfl, H0, 0, rfl⟩
  case round =>
    obtain ⟨k, hk, rfl, HE, q, rfl⟩ := hrel
    by_cases hlt : k < 11
    · have hltI : (k : Int) < 11 := by omega
      have p1 := HA.out k hlt
      have p2 := HB.out k hlt
      by_cases h1 : dg a k < dg b k
      · have t1 := tx_lt h1
        have c : cmp a b = -1 := by unfold cmp; rw [if_pos (lt_of_dg hlt HE.out h1)]
        have HC : Hid (cmp a b = -1) := c
        clear c h1
        go_wp2
        go_quiet (fail)
        go_wp2
        go_ret
        exact ⟨ret_int HC.out.symm, q + nq, by simp⟩
      by_cases h2 : dg b k < dg a k
      · have t1 := tx_lt h2
        have hba := lt_of_dg hlt HE.out.symm h2
        have c : cmp a b = 1 := by unfold cmp; rw [if_neg (by omega), if_pos hba]
        have HC : Hid (cmp a b = 1) := c
        clear c h1 h2 hba
        go_wp2
        go_quiet (fail)
        go_wp2
        go_quiet (fail)
        go_wp2
        go_ret
        refine ⟨ret_int HC.out.symm, ?_⟩
        rw [World.drewN_drewN, World.drewN_drewN]
        exact ⟨_, rfl⟩
      · have e : dg a k = dg b k := by omega
        have HE' : Hid (hi a (k + 1) = hi b (k + 1)) := hi_eq hlt HE.out e
        have et : tx b k = tx a k := by unfold tx; rw [e]
        rw [et] at p2
        clear h1 h2 e et
        go_wp2
        go_quiet (fail)
        go_wp2
        go_quiet (fail)
        go_wp2
        go_roundw
        case rel => exact ⟨k + 1, by omega, by go_num, HE', _, rfl⟩
        case measure => simp [intOf]; omega
    · obtain rfl : k = 11 := by omega
      have e := HE.out
      rw [hi_all, hi_all] at e
      have c : cmp a b = 0 := by unfold cmp; rw [if_neg (by omega), if_neg (by omega)]
      have HC : Hid (cmp a b = 0) := c
      clear c e
      go_wp2
      go_ret
      exact ⟨ret_int HC.out.symm, q, rfl⟩
end Go.Proofs.Qxb6617629a
