import Derived.Test.Qxb6616228aProg
import Derived.WalkKit
import Derived.ProofKit
import Derived.Deep.QuietTactic
import Derived.BigQuiet
import Derived.Test.Qxb6616228aA
import Derived.Test.Qxb6616228aPlain
namespace Go.Proofs.Qxb6616228a
open Go.RowKit

/-- the search of the dfa's table: it ends at a place l whose range holds r. -/
theorem class_any (B g1 o1 g2 o2 n c1 c2 : Nat) (f c : Nat → Int) (r : Int) (w : World) (hn : 0 < n) (hN : n ≤ 65536)
    (hf : w.cell? ⟨B, 132, none⟩ = some (.slice (some ⟨g1, o1, none⟩) n c1)) (hc : w.cell? ⟨B, 133, none⟩ = some (.slice (some ⟨g2, o2, none⟩) n c2))
    (hF : ∀ j, j < n → w.cell? ⟨g1, o1 + j, none⟩ = some (.int .i32 (f j))) (hC : ∀ j, j < n → w.cell? ⟨g2, o2 + j, none⟩ = some (.int .u16 (c j)))
    (hb : ∀ j, 0 ≤ c j ∧ c j ≤ 65535) (h0 : f 0 ≤ r) :
    Calls Try.prog 21 #[.pointer (some ⟨B, 0, none⟩), .int .i32 r] w fun e w' => ∃ l, l < n ∧ f l ≤ r ∧ (l + 1 < n → r < f (l + 1)) ∧ e = .returned (.int .i64 (c l)) ∧ ∃ k, w' = w.drewN k := by
  have H0 : Hid (f 0 ≤ r) := h0
  clear h0
  go_enter Try.func21, Try.ntmps21
  go_wp2
  go_quiet (fail)
  go_wp2
  go_loop [5, 6] (fun lo hi => ∃ l h : Nat, l < h ∧ h ≤ n ∧ lo = .int .i64 l ∧ hi = .int .i64 h ∧ f l ≤ r ∧ (h < n → r < f h))
    (fun lo hi => (intOf hi).toNat - (intOf lo).toNat)
  case atStart => exact ⟨0, n, hn, Nat.le_refl _, rfl, rfl, H0.out, fun h => absurd h (Nat.lt_irrefl _)⟩
  case round =>
    obtain ⟨l, h, hlh, hh, rfl, rfl, hl, hr⟩ := hrel
    have hcell : w.cell? ⟨g1, o1 + (l + h) / 2, none⟩ = some (.int .i32 (f ((l + h) / 2))) := hF _ (by omega)
    have hcl : w.cell? ⟨g2, o2 + l, none⟩ = some (.int .u16 (c l)) := hC _ (by omega)
    have hbl := hb l
    go_wp2
    · have h1 : (1 : Int) < ↑h - ↑l := by assumption
      have h2 : f ((l + h) / 2) ≤ r := by assumption
      go_round
      case rel => exact ⟨(l + h) / 2, h, by omega, hh, by go_num, rfl, h2, hr⟩
      case measure => simp only [intOf]; omega
    · have h1 : (1 : Int) < ↑h - ↑l := by assumption
      have h2 : r < f ((l + h) / 2) := by assumption
      go_round
      case rel => exact ⟨l, (l + h) / 2, by omega, by omega, rfl, by go_num, hl, fun _ => h2⟩
      case measure => simp only [intOf]; omega
    · have h1 : (h : Int) - ↑l ≤ 1 := by assumption
      have e : h = l + 1 := by omega
      go_ret
      exact ⟨l, by omega, hl, by rw [← e]; exact hr, rfl, _, rfl⟩

theorem class16_any (B g1 o1 g2 o2 n c1 c2 : Nat) (f c : Nat → Int) (r : Int) (w : World) (hn : 0 < n) (hN : n ≤ 65536)
    (hf : w.cell? ⟨B, 132, none⟩ = some (.slice (some ⟨g1, o1, none⟩) n c1)) (hc : w.cell? ⟨B, 133, none⟩ = some (.slice (some ⟨g2, o2, none⟩) n c2))
    (hF : ∀ j, j < n → w.cell? ⟨g1, o1 + j, none⟩ = some (.int .i32 (f j))) (hC : ∀ j, j < n → w.cell? ⟨g2, o2 + j, none⟩ = some (.int .u16 (c j)))
    (hb : ∀ j, 0 ≤ c j ∧ c j ≤ 65535) (h0 : f 0 ≤ r) :
    Calls Try.prog 16 #[.pointer (some ⟨B, 0, none⟩), .int .i32 r] w fun e w' => ∃ l, l < n ∧ f l ≤ r ∧ (l + 1 < n → r < f (l + 1)) ∧ e = .returned (.int .i64 (c l)) ∧ ∃ k, w' = w.drewN k := by
  have K := class_any B g1 o1 g2 o2 n c1 c2 f c r w hn hN hf hc hF hC hb h0
  clear hf hc hF hC hb h0 hn hN
  go_enter Try.func16, Try.ntmps16
  go_wp2_with fail
  refine K.mono ?_
  rintro e w' ⟨l, hl, h1, h2, rfl, k, rfl⟩
  go_wp2
  go_ret
  exact ⟨l, hl, h1, h2, rfl, k, rfl⟩

/-- the cells of '&dfa{from: .., classes: ..}' -/
theorem built_dfaC (a b : Option Addr) (n c m d : Nat) : (Try.prog.built 63 [(5, .slice a n c), (6, .slice b m d)]).map (fun C => (C[132]?, C[133]?)) = some (some (.slice a n c), some (.slice b m d)) := by kernel_rfl
theorem opt_two {X : Option (Array Value)} {i j : Nat} {u v : Option Value} (h : X.map (fun C => (C[i]?, C[j]?)) = some (u, v)) : ∃ C, X = some C ∧ C[i]? = u ∧ C[j]? = v := by
  cases X with
  | none => cases h
  | some C => exact ⟨C, rfl, congrArg Prod.fst (Option.some.inj h), congrArg Prod.snd (Option.some.inj h)⟩
theorem ex_dfaC (a b : Option Addr) (n c m d : Nat) : ∃ C, Try.prog.built 63 [(5, .slice a n c), (6, .slice b m d)] = some C ∧ C[132]? = some (.slice a n c) ∧ C[133]? = some (.slice b m d) := opt_two (built_dfaC a b n c m d)

theorem newC_any (a b : Option Addr) (n c m d : Nat) (w : World) :
    Calls Try.prog 15 #[.slice a n c, .slice b m d] w fun e w' => e = .returned (.pointer (some ⟨w.heap.size, 0, none⟩)) ∧ Below w.heap.size w w' ∧ w.heap.size < w'.heap.size ∧
      w'.cell? ⟨w.heap.size, 132, none⟩ = some (.slice a n c) ∧ w'.cell? ⟨w.heap.size, 133, none⟩ = some (.slice b m d) := by
  obtain ⟨C, hb, hC1, hC2⟩ := ex_dfaC a b n c m d
  have HB : Hid (Try.prog.built 63 [(5, .slice a n c), (6, .slice b m d)] = some C) := hb
  clear hb
  go_enter Try.func15, Try.ntmps15
  go_wp2_with ((with_reducible refine wpList_build [(5, .slice a n c), (6, .slice b m d)] C HB.out ?hl ?_); (case hl => rfl))
  go_ret
  refine ⟨rfl, (Below.refl _ _).alloc (Nat.le_refl _) _, by simp, ?_, ?_⟩
  · simp [hC1]
  · simp [hC2]

/-- 'b1StrictlyRising' answers true only of a table that rises -/
theorem rising_any (g n cap : Nat) (f : Nat → Int) (w : World) (hN : n ≤ 65536) (hF : ∀ j, j < n → w.cell? ⟨g, j, none⟩ = some (.int .i32 (f j))) :
    Calls Try.prog 14 #[.slice (some ⟨g, 0, none⟩) n cap] w fun e w' => ∃ b, e = .returned (.bool b) ∧ (b = true → Rising f n) ∧ ∃ k, w' = w.drewN k := by
  go_enter Try.func14, Try.ntmps14
  go_wp2
  go_loopw [3] (fun i wr => ∃ k : Nat, 1 ≤ k ∧ (k ≤ n ∨ k = 1) ∧ i = .int .i64 k ∧ (∀ t, t + 1 < k → f t < f (t + 1)) ∧ ∃ q, wr = w.drewN q) (fun i _ => n - (intOf i).toNat)
  case atStart => exact ⟨1, Nat.le_refl _, .inr rfl, rfl, fun t ht => absurd ht (by omega), 0, rfl⟩
  case round =>
    obtain ⟨k, hk1, hk2, rfl, hR, q, rfl⟩ := hrel
    have HR : Hid (∀ t, t + 1 < k → f t < f (t + 1)) := hR
    clear hR
    by_cases hlt : k < n
    · have hc1 : w.cell? ⟨g, k, none⟩ = some (.int .i32 (f k)) := hF k hlt
      have hc2 : w.cell? ⟨g, k - 1, none⟩ = some (.int .i32 (f (k - 1))) := hF (k - 1) (by omega)
      have hltI : (k : Int) < n := by omega
      clear hF
      go_wp2
      go_quiet (fail)
      go_wp2
      · go_ret
        exact ⟨false, rfl, (fun h => by cases h), q + nq, by simp⟩
      · have hf : f (k - 1) < f k := by assumption
        go_roundw
        case rel =>
          refine ⟨k + 1, by omega, .inl (by omega), by go_num, fun t ht => ?_, _, rfl⟩
          by_cases e : t + 1 < k
          · exact HR.out t e
          · have e1 : t = k - 1 := by omega
            subst e1
            have e2 : k - 1 + 1 = k := by omega
            rw [e2]; exact hf
        case measure => simp [intOf]; omega
    · go_wp2
      go_ret
      exact ⟨true, rfl, fun _ t ht => HR.out t (by omega), _, rfl⟩

/-- the bound on the total length: it answers, and where both are short it says yes -/
theorem bytes13_any (a b : Option Addr) (n c m d : Nat) (x y : Int) (w : World) (hn : n ≤ 65536) (hm : m ≤ 65536) :
    Calls Try.prog 13 #[.slice a n c, .slice b m d, .int .i64 x, .int .i32 y] w fun e w' => e = .returned (.bool true) ∧ w = w' := by
  go_enter Try.func13, Try.ntmps13
  go_wp2
  go_ret
  exact ⟨rfl, rfl⟩
theorem bytes13_long (a b : Option Addr) (n c m d : Nat) (x y : Int) (w : World) (hn : n ≤ maxLen) (hm : m ≤ maxLen) :
    Calls Try.prog 13 #[.slice a n c, .slice b m d, .int .i64 x, .int .i32 y] w fun e w' => ∃ r, e = .returned (.bool r) ∧ w = w' := by
  unfold maxLen at hn hm
  go_enter Try.func13, Try.ntmps13
  go_wp2
  all_goals
    go_ret
    exact ⟨_, rfl, rfl⟩
theorem bytes17_any (a b : Option Addr) (n c m d : Nat) (y : Int) (w : World) (hn : n ≤ 65536) (hm : m ≤ 65536) :
    Calls Try.prog 17 #[.slice a n c, .slice b m d, .int .i32 y] w fun e w' => e = .returned (.bool true) ∧ w = w' := by
  go_enter Try.func17, Try.ntmps17
  go_wp2
  go_ret
  exact ⟨rfl, rfl⟩
theorem bytes17_long (a b : Option Addr) (n c m d : Nat) (y : Int) (w : World) (hn : n ≤ maxLen) (hm : m ≤ maxLen) :
    Calls Try.prog 17 #[.slice a n c, .slice b m d, .int .i32 y] w fun e w' => ∃ r, e = .returned (.bool r) ∧ w = w' := by
  unfold maxLen at hn hm
  go_enter Try.func17, Try.ntmps17
  go_wp2
  all_goals
    go_ret
    exact ⟨_, rfl, rfl⟩
end Go.Proofs.Qxb6616228a
