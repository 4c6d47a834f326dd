import Derived.Test.Qxb6617605aProg
import Derived.WalkKit
import Derived.ProofKit
import Derived.Deep.QuietTactic
import Derived.BigQuiet
import Derived.WalkSpells
import Derived.WalkSmall
namespace Go.Proofs.Qxb6617605a
open Go.RowKit

/-- a slice's elements: n numbers 'f j' (nothing is known of an empty slice's address) -/
def InRow (w : World) (k : IntKind) (a : Option Addr) (n : Nat) (f : Nat → Int) : Prop :=
  n = 0 ∨ ∃ b off, a = some ⟨b, off, none⟩ ∧ ∀ j, j < n → w.cell? ⟨b, off + j, none⟩ = some (.int k (f j))

theorem InRow.later {w w' : World} {k : IntKind} {a : Option Addr} {n : Nat} {f : Nat → Int} (h : InRow w k a n f) (hb : Below w.heap.size w w') : InRow w' k a n f := by
  rcases h with h | ⟨b, off, e, h⟩
  · exact .inl h
  · exact .inr ⟨b, off, e, fun j hj => cell_later hb (h j hj)⟩
theorem InRow.drewN {w : World} {k : IntKind} {a : Option Addr} {n : Nat} {f : Nat → Int} (h : InRow w k a n f) (q : Nat) : InRow (w.drewN q) k a n f := by
  rcases h with h | ⟨b, off, e, h⟩
  · exact .inl h
  · exact .inr ⟨b, off, e, fun j hj => by simpa using h j hj⟩
theorem InRow.pos {w : World} {k : IntKind} {a : Option Addr} {n : Nat} {f : Nat → Int} (h : InRow w k a n f) (hn : 0 < n) : ∃ b off, a = some ⟨b, off, none⟩ ∧ ∀ j, j < n → w.cell? ⟨b, off + j, none⟩ = some (.int k (f j)) := by
  rcases h with h | h
  · omega
  · exact h

/-- the bound on the total length -/
theorem bytes_any (a b : Option Addr) (n c m d : Nat) (x y : Int) (w : World) (hn : n ≤ 65536) (hm : m ≤ 65536) :
    Calls Try.prog 4 #[.slice a n c, .slice b m d, .int .i64 x, .int .i64 y] w fun e w' => e = .returned (.bool true) ∧ w = w' := by
  go_enter Try.func4, Try.ntmps4
  go_wp2
  go_ret
  exact ⟨rfl, rfl⟩
theorem bytes_long (a b : Option Addr) (n c m d : Nat) (x y : Int) (w : World) (hn : n ≤ maxLen) (hm : m ≤ maxLen) :
    Calls Try.prog 4 #[.slice a n c, .slice b m d, .int .i64 x, .int .i64 y] w fun e w' => ∃ r, e = .returned (.bool r) ∧ w = w' := by
  unfold maxLen at hn hm
  go_enter Try.func4, Try.ntmps4
  go_wp2
  all_goals
    go_ret
    exact ⟨_, rfl, rfl⟩

set_option maxHeartbeats 1000000 in
/-- 'catU64' of a row and its two parts -/
theorem catU64_any (a1 a2 a3 : Option Addr) (n1 n2 n3 c1 c2 c3 : Nat) (f1 f2 f3 : Nat → Int) (w : World) (hn : n1 = n2 + n3) (hN : n1 ≤ 65536)
    (r1 : InRow w .u64 a1 n1 f1) (r2 : InRow w .u64 a2 n2 f2) (r3 : InRow w .u64 a3 n3 f3) (h2 : ∀ j, j < n2 → f1 j = f2 j) (h3 : ∀ j, j < n3 → f1 (n2 + j) = f3 j) :
    Calls Try.prog 6 #[.slice a1 n1 c1, .slice a2 n2 c2, .slice a3 n3 c3] w fun e w' => e = .returned (.bool true) ∧ ∃ k, w' = w.drewN k := by
  have R1 : Hid (InRow w .u64 a1 n1 f1) := r1
  have R2 : Hid (InRow w .u64 a2 n2 f2) := r2
  have R3 : Hid (InRow w .u64 a3 n3 f3) := r3
  have H2 : Hid (∀ j, j < n2 → f1 j = f2 j) := h2
  have H3 : Hid (∀ j, j < n3 → f1 (n2 + j) = f3 j) := h3
  have e0 : ((n1 : Int) != (n2 : Int) + (n3 : Int)) = false := by simp; omega
  have b2 : n2 + n3 ≤ 65536 := by omega
  have HN : Hid (n1 = n2 + n3) := hn
  clear r1 r2 r3 h2 h3 hn
  go_enter Try.func6, Try.ntmps6
  go_wp2
  go_loopw [7] (fun i wr => ∃ k : Nat, k ≤ n2 ∧ i = .int .i64 k ∧ ∃ q, wr = w.drewN q) (fun i _ => n2 - (intOf i).toNat)
  case atStart => exact ⟨0, Nat.zero_le _, rfl, 0, rfl⟩
  case round =>
    obtain ⟨k, hk, rfl, q, rfl⟩ := hrel
    by_cases hlt : k < n2
    · have hltI : (k : Int) < n2 := by omega
      have hltJ : (k : Int) < n1 := by have := HN.out; omega
      obtain ⟨g1, o1, rfl, q1⟩ := R1.out.pos (by have := HN.out; omega)
      obtain ⟨g2, o2, rfl, q2⟩ := R2.out.pos (by omega)
      have p1 := q1 k (by have := HN.out; omega)
      have p2 := q2 k hlt
      have e1 : (f1 k != f2 k) = false := by rw [H2.out k hlt]; simp
      clear q1 q2
      go_wp2
      go_quiet (fail)
      go_wp2
      go_roundw
      case rel => exact ⟨k + 1, by omega, by go_num, q + nq, by simp⟩
      case measure => simp [intOf]; omega
    · obtain rfl : k = n2 := by omega
      clear hlt hk
      go_wp2
      go_loopw [8] (fun i wr => ∃ j : Nat, j ≤ n3 ∧ i = .int .i64 j ∧ ∃ q, wr = w.drewN q) (fun i _ => n3 - (intOf i).toNat)
      case atStart => exact ⟨0, Nat.zero_le _, rfl, q, rfl⟩
      case round =>
        obtain ⟨j, hj, rfl, q, rfl⟩ := hrel
        by_cases hlt : j < n3
        · have hltI : (j : Int) < n3 := by omega
          have hltJ : (k : Int) + (j : Int) < n1 := by have := HN.out; omega
          obtain ⟨g1, o1, rfl, q1⟩ := R1.out.pos (by have := HN.out; omega)
          obtain ⟨g3, o3, rfl, q3⟩ := R3.out.pos (by omega)
          have p1 := q1 (k + j) (by have := HN.out; omega)
          have p3 := q3 j hlt
          have e1 : (f1 (k + j) != f3 j) = false := by rw [H3.out j hlt]; simp
          clear q1 q3
          go_wp2
          go_quiet (fail)
          go_wp2
          go_roundw
          case rel => exact ⟨j + 1, by omega, by go_num, q + nq, by simp⟩
          case measure => simp [intOf]; omega
        · go_wp2
          go_ret
          exact ⟨rfl, q, rfl⟩

set_option maxHeartbeats 1000000 in
/-- 'catI64' of a row and its two parts -/
theorem catI64_any (a1 a2 a3 : Option Addr) (n1 n2 n3 c1 c2 c3 : Nat) (f1 f2 f3 : Nat → Int) (w : World) (hn : n1 = n2 + n3) (hN : n1 ≤ 65536)
    (r1 : InRow w .i64 a1 n1 f1) (r2 : InRow w .i64 a2 n2 f2) (r3 : InRow w .i64 a3 n3 f3) (h2 : ∀ j, j < n2 → f1 j = f2 j) (h3 : ∀ j, j < n3 → f1 (n2 + j) = f3 j) :
    Calls Try.prog 7 #[.slice a1 n1 c1, .slice a2 n2 c2, .slice a3 n3 c3] w fun e w' => e = .returned (.bool true) ∧ ∃ k, w' = w.drewN k := by
  have R1 : Hid (InRow w .i64 a1 n1 f1) := r1
  have R2 : Hid (InRow w .i64 a2 n2 f2) := r2
  have R3 : Hid (InRow w .i64 a3 n3 f3) := r3
  have H2 : Hid (∀ j, j < n2 → f1 j = f2 j) := h2
  have H3 : Hid (∀ j, j < n3 → f1 (n2 + j) = f3 j) := h3
  have e0 : ((n1 : Int) != (n2 : Int) + (n3 : Int)) = false := by simp; omega
  have b2 : n2 + n3 ≤ 65536 := by omega
  have HN : Hid (n1 = n2 + n3) := hn
  clear r1 r2 r3 h2 h3 hn
  go_enter Try.func7, Try.ntmps7
  go_wp2
  go_loopw [7] (fun i wr => ∃ k : Nat, k ≤ n2 ∧ i = .int .i64 k ∧ ∃ q, wr = w.drewN q) (fun i _ => n2 - (intOf i).toNat)
  case atStart => exact ⟨0, Nat.zero_le _, rfl, 0, rfl⟩
  case round =>
    obtain ⟨k, hk, rfl, q, rfl⟩ := hrel
    by_cases hlt : k < n2
    · have hltI : (k : Int) < n2 := by omega
      have hltJ : (k : Int) < n1 := by have := HN.out; omega
      obtain ⟨g1, o1, rfl, q1⟩ := R1.out.pos (by have := HN.out; omega)
      obtain ⟨g2, o2, rfl, q2⟩ := R2.out.pos (by omega)
      have p1 := q1 k (by have := HN.out; omega)
      have p2 := q2 k hlt
      have e1 : (f1 k != f2 k) = false := by rw [H2.out k hlt]; simp
      clear q1 q2
      go_wp2
      go_quiet (fail)
      go_wp2
      go_roundw
      case rel => exact ⟨k + 1, by omega, by go_num, q + nq, by simp⟩
      case measure => simp [intOf]; omega
    · obtain rfl : k = n2 := by omega
      clear hlt hk
      go_wp2
      go_loopw [8] (fun i wr => ∃ j : Nat, j ≤ n3 ∧ i = .int .i64 j ∧ ∃ q, wr = w.drewN q) (fun i _ => n3 - (intOf i).toNat)
      case atStart => exact ⟨0, Nat.zero_le _, rfl, q, rfl⟩
      case round =>
        obtain ⟨j, hj, rfl, q, rfl⟩ := hrel
        by_cases hlt : j < n3
        · have hltI : (j : Int) < n3 := by omega
          have hltJ : (k : Int) + (j : Int) < n1 := by have := HN.out; omega
          obtain ⟨g1, o1, rfl, q1⟩ := R1.out.pos (by have := HN.out; omega)
          obtain ⟨g3, o3, rfl, q3⟩ := R3.out.pos (by omega)
          have p1 := q1 (k + j) (by have := HN.out; omega)
          have p3 := q3 j hlt
          have e1 : (f1 (k + j) != f3 j) = false := by rw [H3.out j hlt]; simp
          clear q1 q3
          go_wp2
          go_quiet (fail)
          go_wp2
          go_roundw
          case rel => exact ⟨j + 1, by omega, by go_num, q + nq, by simp⟩
          case measure => simp [intOf]; omega
        · go_wp2
          go_ret
          exact ⟨rfl, q, rfl⟩
end Go.Proofs.Qxb6617605a
