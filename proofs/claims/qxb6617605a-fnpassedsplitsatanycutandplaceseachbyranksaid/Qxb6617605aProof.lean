/-
  THE SHELL OF A PROOF OF 'Rows.FnPassedSplitsAtAnyCutAndPlacesEachByRankSaid' ('example.com/onceward/onceward/zzlaws_internal_statedir_b1.FnPassedSplitsAtAnyCutAndPlacesEachByRank'), the frame WRITTEN BY PROGRAM (proof-skeleton.mjs, third state) off the guide's own print for that function. Not trusted: Lean checks it.
-/
import Derived.Test.Qxb6617605aRows
import Derived.WalkKit
import Derived.ProofKit
import Derived.OpenShut
import Derived.ShutString
import Derived.ChangeOld
import Derived.Below
import Derived.Test.Qxb6617605aZero
namespace Go.Proofs.Qxb6617605a.fnPassedSplitsAtAnyCutAndPlacesEachByRank
open Go.ChangeShapes Go.WideShapes Go.ChangeAt Go.RowKit
open Go.ChangeMaps (open_string shut_string)
set_option linter.unusedVariables false

theorem own : ownKnob Try.prog.godebug = none := by kernel_rfl
theorem laidOut : laidOutB Try.prog = true := by kernel_rfl

/-- WHAT THE WALK IS TOLD OF A SLICE OF INTEGERS THAT CAME IN: it is nil; or it leads to a row of 'cap' cells, the numbers 'zs' (the first 'len' are its elements, the rest its spare room), each fitting its kind. -/
def IsRow (k : IntKind) (w : World) (a : Option Addr) (len cap : Nat) (zs : List Int) : Prop :=
  (a = none ∧ len = 0 ∧ cap = 0 ∧ zs = []) ∨
  ∃ x, a = some x ∧ len ≤ cap ∧ cap ≤ maxLen ∧ zs.length = cap ∧ (∀ i, i < zs.length → w.cell? (x.add i) = some (.int k (zs.getD i 0))) ∧ ∀ n ∈ zs, (Lit.int k n).wf = true

set_option maxRecDepth 100000 in
/-- a slice longer than 65536: the law answers true by its own guard -/
theorem long (a0 : Option Addr) (len0 cap0 : Nat) (a1 : Option Addr) (len1 cap1 : Nat) (a2 : Int) (a3 : Int) (w : World) (m0 : len0 ≤ maxLen) (m1 : len1 ≤ maxLen) (h : 65536 < len0 ∨ 65536 < len1) :
    Calls Try.prog 3 #[.slice a0 len0 cap0, .slice a1 len1 cap1, .int .i64 a2, .int .i64 a3] w fun e w' => e = .returned (.bool true) ∧ Below w.heap.size w w' := by
  have K := bytes_long a0 a1 len0 cap0 len1 cap1 a2 a3 w m0 m1
  unfold maxLen at m0 m1
  by_cases h0 : (65536 : Int) < len0
  · go_enter Try.func3, Try.ntmps3
    go_wp2_with fail
    refine K.mono ?_
    rintro e w' ⟨r, rfl, rfl⟩
    clear K
    cases r with
    | false => go_wp2; go_ret; exact ⟨rfl, Below.refl _ _⟩
    | true => go_wp2; go_ret; exact ⟨rfl, Below.refl _ _⟩
  · have h1 : (65536 : Int) < len1 := by omega
    go_enter Try.func3, Try.ntmps3
    go_wp2_with fail
    refine K.mono ?_
    rintro e w' ⟨r, rfl, rfl⟩
    clear K
    cases r with
    | false => go_wp2; go_ret; exact ⟨rfl, Below.refl _ _⟩
    | true => go_wp2; go_ret; exact ⟨rfl, Below.refl _ _⟩

set_option maxRecDepth 100000 in
/-- lists of two lengths -/
theorem uneven (a0 : Option Addr) (len0 cap0 : Nat) (a1 : Option Addr) (len1 cap1 : Nat) (a2 : Int) (a3 : Int) (w : World) (s0 : len0 ≤ 65536) (s1 : len1 ≤ 65536) (h : len0 ≠ len1) :
    Calls Try.prog 3 #[.slice a0 len0 cap0, .slice a1 len1 cap1, .int .i64 a2, .int .i64 a3] w fun e w' => e = .returned (.bool true) ∧ Below w.heap.size w w' := by
  have e0 : ((len0 : Int) != (len1 : Int)) = true := by simp; omega
  go_enter Try.func3, Try.ntmps3
  go_wp2_with fail
  refine (bytes_any _ _ _ _ _ _ _ _ _ s0 s1).mono ?_
  rintro e w' ⟨rfl, rfl⟩
  go_wp2
  go_ret
  exact ⟨rfl, Below.refl _ _⟩

set_option maxRecDepth 100000 in
/-- a cut outside the list -/
theorem outside (a0 : Option Addr) (n cap0 : Nat) (a1 : Option Addr) (cap1 : Nat) (a2 : Int) (a3 : Int) (w : World) (s0 : n ≤ 65536) (h : a3 < 0 ∨ (n : Int) < a3) :
    Calls Try.prog 3 #[.slice a0 n cap0, .slice a1 n cap1, .int .i64 a2, .int .i64 a3] w fun e w' => e = .returned (.bool true) ∧ Below w.heap.size w w' := by
  by_cases h0 : a3 < 0
  · go_enter Try.func3, Try.ntmps3
    go_wp2_with fail
    refine (bytes_any _ _ _ _ _ _ _ _ _ s0 s0).mono ?_
    rintro e w' ⟨rfl, rfl⟩
    go_wp2
    go_ret
    exact ⟨rfl, Below.refl _ _⟩
  · have h1 : (n : Int) < a3 := by omega
    have h2 : 0 ≤ a3 := by omega
    clear h h0
    go_enter Try.func3, Try.ntmps3
    go_wp2_with fail
    refine (bytes_any _ _ _ _ _ _ _ _ _ s0 s0).mono ?_
    rintro e w' ⟨rfl, rfl⟩
    go_wp2
    go_ret
    exact ⟨rfl, Below.refl _ _⟩

/-! ### STEP 1: THE WALK: the Go text returns true, AND WRITES NOTHING THAT WAS THERE: 'Below w.heap.size w w'' (Derived/Below.lean: '.refl', '.alloc', '.drew', '.setCell' at a new block, '.trans'). Open each 'IsRow' by 'rcases' AHEAD of 'go_enter'; part every test ahead of the walk. -/
theorem walk (a0 : Option Addr) (len0 cap0 : Nat) (z0 : List Int) (a1 : Option Addr) (len1 cap1 : Nat) (z1 : List Int) (a2 : Int) (a3 : Int) (w : World) (w0 : IsRow .u64 w a0 len0 cap0 z0) (w1 : IsRow .i64 w a1 len1 cap1 z1) (w2 : (Lit.int .i64 a2).wf = true) (w3 : (Lit.int .i64 a3).wf = true) :
    Calls Try.prog 3 #[.slice a0 len0 cap0, .slice a1 len1 cap1, .int .i64 a2, .int .i64 a3] w fun e w' => e = .returned (.bool true) ∧ Below w.heap.size w w' := by
  have m0 : len0 ≤ maxLen := by
    rcases w0 with ⟨_, h, _⟩ | ⟨x, _, h1, h2, _⟩
    · rw [h]; exact Nat.zero_le _
    · exact Nat.le_trans h1 h2
  have m1 : len1 ≤ maxLen := by
    rcases w1 with ⟨_, h, _⟩ | ⟨x, _, h1, h2, _⟩
    · rw [h]; exact Nat.zero_le _
    · exact Nat.le_trans h1 h2
  by_cases hlong : 65536 < len0 ∨ 65536 < len1
  · exact long a0 len0 cap0 a1 len1 cap1 a2 a3 w m0 m1 hlong
  have s0 : len0 ≤ 65536 := by omega
  have s1 : len1 ≤ 65536 := by omega
  by_cases hne : len0 = len1
  · by_cases hout : a3 < 0 ∨ (len0 : Int) < a3
    · subst hne
      exact outside a0 len0 cap0 a1 cap1 a2 a3 w s0 hout
    obtain ⟨cut, rfl⟩ : ∃ cut : Nat, a3 = (cut : Int) := ⟨a3.toNat, by omega⟩
    have hcut : cut ≤ len0 := by omega
    clear hout hlong m0 m1
    by_cases hn : len0 = 0
    · have hz : cut = 0 := by omega
      have hn1 : len1 = 0 := by omega
      subst hz
      rcases w0 with ⟨rfl, -, rfl, rfl⟩ | ⟨x0, rfl, -⟩
      · rcases w1 with ⟨rfl, -, rfl, rfl⟩ | ⟨x1, rfl, -⟩
        · rw [hn, hn1]; exact main_nn a2 w
        · rw [hn, hn1]; exact main_ns x1 cap1 a2 w
      · rcases w1 with ⟨rfl, -, rfl, rfl⟩ | ⟨x1, rfl, -⟩
        · rw [hn, hn1]; exact main_sn x0 cap0 a2 w
        · rw [hn, hn1]; exact main_ss x0 cap0 x1 cap1 a2 w
    · rcases w0 with ⟨_, h, _⟩ | ⟨x0, rfl, hl0, hm0, hz0, hc0, hw0⟩
      · exact absurd h hn
      rcases w1 with ⟨_, h, _⟩ | ⟨x1, rfl, hl1, hm1, hz1, hc1, hw1⟩
      · exact absurd (hne.trans h) hn
      subst hne
      exact main_deep x0 x1 len0 cap0 cap1 (pairs len0 (fun i => z0.getD i 0) (fun i => z1.getD i 0)) a2 cut w (by omega) s0 (pairs_len _ _ _) hcut
        (fun i hi => by rw [pairs_g _ _ _ i hi]; exact hc0 i (by omega)) (fun i hi => by rw [pairs_l _ _ _ i hi]; exact hc1 i (by omega))
  · exact uneven a0 len0 cap0 a1 len1 cap1 a2 a3 w s0 s1 hne

/-! ### THE ROW's STEP: WRITTEN OUT: LEAVE IT -/
set_option maxRecDepth 100000 in
theorem lifted (os : Os) (started : os.Started) (H : Type) (enc : TypeId × Value → H) :
    ReturnsInHanded {} Try.checked os 3 .any (Rows.fnPassedSplitsAtAnyCutAndPlacesEachByRankSpec.pre6 enc Try.prog Try.f3 Rows.fnPassedSplitsAtAnyCutAndPlacesEachByRankRow.domain false) (Rows.fnPassedSplitsAtAnyCutAndPlacesEachByRankSpec.post enc Try.prog Try.f3 false true false false) := by
  refine returnsInHanded_of_change (C := Try.checked) own started (by kernel_rfl) Try.func3
    (ChangeSpec.witness6 (enc := enc) (C := Try.checked) false ⟨#[], #[.slice none 0 0, .slice none 0 0, .int .i64 0, .int .i64 0], []⟩ 8 (by kernel_rfl) (by kernel_rfl) (by kernel_rfl) (by kernel_rfl)) ?_
  intro W base args ds gs before hval0 hW hcnd _
  have hval : ∀ (j : Nat) t v, Try.f3.params[j]? = some t → args[j]? = some v → Value.okWide Try.prog W .any base t v := hval0
  have hW' := hW
  obtain ⟨p, q, hA0, hV, rfl, hfz, hnd⟩ := hW
  have hA : DataW.TrodAll enc Try.prog W 0 (fun _ => true) true Try.f3.params.toList args.toList ds p := hA0
  rw [Try.params3] at hA hval
  obtain ⟨v0, vs0, d0, ds0, p0, q0, hargs, rfl, rfl, h0, r0⟩ := trodAll_cons hA
  obtain ⟨v1, vs1, d1, ds1, p1, q1, rfl, rfl, rfl, h1, r1⟩ := trodAll_cons r0
  obtain ⟨v2, vs2, d2, ds2, p2, q2, rfl, rfl, rfl, h2, r2⟩ := trodAll_cons r1
  obtain ⟨v3, vs3, d3, ds3, p3, q3, rfl, rfl, rfl, h3, r3⟩ := trodAll_cons r2
  obtain ⟨rfl, rfl, rfl⟩ := trodAll_nil r3
  obtain rfl : args = #[v0, v1, v2, v3] := by cases args; simp_all
  obtain ⟨rfl, rfl⟩ := trodVars_none hV
  obtain ⟨a0, len0, cap0, rfl⟩ := okWide_slice Try.underlying22 (hval 0 22 v0 rfl rfl)
  have k0 := h0
  have lt0 : ∀ x ∈ p0, x.block < W.heap.size := by obtain ⟨m, hm⟩ := k0; exact DataW.trod_lt m _ _ _ hm
  obtain ⟨z0, w0⟩ : ∃ zs, IsRow .u64 W a0 len0 cap0 zs := by
    obtain ⟨fuel, hf⟩ := h0
    rcases open_ints Try.underlying22 Try.underlying27 (by kernel_rfl) hf with ⟨hcs, _⟩ | ⟨x, l, c, zs, hcs, _, hl, hm, hz, _, hcell, hwz⟩
    · simp [Value.cells] at hcs
      obtain ⟨rfl, rfl, rfl⟩ := hcs
      exact ⟨[], .inl ⟨rfl, rfl, rfl, rfl⟩⟩
    · simp [Value.cells] at hcs
      obtain ⟨rfl, rfl, rfl⟩ := hcs
      exact ⟨zs, .inr ⟨_, rfl, hl, hm, by simpa using hz, hcell, hwz⟩⟩
  obtain ⟨a1, len1, cap1, rfl⟩ := okWide_slice Try.underlying23 (hval 1 23 v1 rfl rfl)
  have k1 := h1
  have lt1 : ∀ x ∈ p1, x.block < W.heap.size := by obtain ⟨m, hm⟩ := k1; exact DataW.trod_lt m _ _ _ hm
  obtain ⟨z1, w1⟩ : ∃ zs, IsRow .i64 W a1 len1 cap1 zs := by
    obtain ⟨fuel, hf⟩ := h1
    rcases open_ints Try.underlying23 Try.underlying2 (by kernel_rfl) hf with ⟨hcs, _⟩ | ⟨x, l, c, zs, hcs, _, hl, hm, hz, _, hcell, hwz⟩
    · simp [Value.cells] at hcs
      obtain ⟨rfl, rfl, rfl⟩ := hcs
      exact ⟨[], .inl ⟨rfl, rfl, rfl, rfl⟩⟩
    · simp [Value.cells] at hcs
      obtain ⟨rfl, rfl, rfl⟩ := hcs
      exact ⟨zs, .inr ⟨_, rfl, hl, hm, by simpa using hz, hcell, hwz⟩⟩
  obtain ⟨a2, rfl, rfl, rfl, w2⟩ := open_int Try.underlying2 (hval 2 2 v2 rfl rfl) h2
  obtain ⟨a3, rfl, rfl, rfl, w3⟩ := open_int Try.underlying3 (hval 3 3 v3 rfl rfl) h3
  clear hA0 hval0
  refine (walk a0 len0 cap0 z0 a1 len1 cap1 z1 a2 a3 W w0 w1 w2 w3).mono fun e W' ⟨he, bel⟩ => ?_
  subst he
  exact ⟨_, rfl, _, _, _, [], _, [], hW', trodAll_mk1 (shut_bool Try.underlying4 _), (trodAll_cons_mk (Below.trod laidOut (by kernel_rfl) (of_decide_eq_true (by kernel_rfl)) k0 bel lt0) (trodAll_cons_mk (Below.trod laidOut (by kernel_rfl) (of_decide_eq_true (by kernel_rfl)) k1 bel lt1) (trodAll_cons_mk (shut_int Try.underlying2 w2) (trodAll_cons_mk (shut_int Try.underlying3 w3) trodAll_mk0)))), rfl, bel.frame _, fun h => by cases h⟩

theorem over : Rows.fnPassedSplitsAtAnyCutAndPlacesEachByRankRow.holds Try.pinned (OpenSpec.ofChange Rows.fnPassedSplitsAtAnyCutAndPlacesEachByRankSpec) :=
  OpenClaim.holds_of_wide 3 Try.f3 rfl rfl rfl rfl rfl rfl rfl ⟨rfl, rfl, rfl, rfl, rfl⟩ rfl rfl rfl rfl rfl (by kernel_rfl) Try.func3 (by kernel_rfl)
    (of_decide_eq_true (by kernel_rfl)) (by unfold Func.isWrapper; first | (rw [if_pos (by decide +kernel)]; kernel_rfl) | (rw [if_neg (by decide +kernel)]; exact ⟨rfl, rfl⟩))
    (fun os started H enc _ => lifted os started H enc)

/-- ████ THE STATEMENT ████ -/
theorem proved : Rows.FnPassedSplitsAtAnyCutAndPlacesEachByRankSaid := over
#print axioms proved
end Go.Proofs.Qxb6617605a.fnPassedSplitsAtAnyCutAndPlacesEachByRank
