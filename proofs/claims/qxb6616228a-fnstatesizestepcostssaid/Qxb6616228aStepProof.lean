/-
  THE SHELL OF A PROOF OF 'Rows.FnStateSizeStepCostsSaid' ('example.com/callwarden/callwarden/zzlaws_policy_b1.FnStateSizeStepCosts'), the frame WRITTEN BY PROGRAM (proof-skeleton.mjs) off the guide's own print for that function. Not trusted: Lean checks it.
-/
import Derived.Test.Qxb6616228aRows
import Derived.WalkKit
import Derived.ProofKit
import Derived.OpenShut
import Derived.ShutString
import Derived.Test.Qxb6616228aA
namespace Go.Proofs.Qxb6616228a.fnStateSizeStepCosts
open Go.ChangeShapes Go.WideShapes Go.ChangeAt Go.RowKit
open Go.ChangeMaps (open_string shut_string)
set_option linter.unusedVariables false      -- a walk need not use every 'w<i>' (that an integer argument fits its kind)

theorem own : ownKnob Try.prog.godebug = none := by kernel_rfl

theorem grown_trans {A B C : World} (h : Grown A B) (k : Grown B C) : Grown A C :=
  ⟨World.keptBut_trans h.1 k.1, fun a => (k.2.1 a).trans (h.2.1 a), Nat.le_trans h.2.2 k.2.2⟩

/-! ### STEP 1: THE WALK: the Go text returns true. 'Grown w w'': the world has at most new blocks (Derived/RowKit3.lean). Part the cases AHEAD of 'go_enter' where a test parts the walk; take each callee by a contract of your own. -/
theorem walk (a0 : Int) (a1 : Int) (a2 : Int) (w0 : (Lit.int .i64 a0).wf = true) (w1 : (Lit.int .i64 a1).wf = true) (w2 : (Lit.int .i64 a2).wf = true) (w : World) :
    Calls Try.prog 6 #[.int .i64 a0, .int .i64 a1, .int .i64 a2] w fun e w' => e = .returned (.bool true) ∧ Grown w w' := by
  clear w0 w1 w2
  by_cases h0 : a0 < 0
  · go_enter Try.func6, Try.ntmps6
    go_wp2
    go_ret
    exact ⟨rfl, Grown.refl _⟩
  · have h3 : 0 ≤ a0 := by omega
    clear h0
    by_cases h1 : wrap64 (a0 + 1) < 0
    · go_enter Try.func6, Try.ntmps6
      go_wp2
      go_ret
      exact ⟨rfl, Grown.refl _⟩
    · have h2 : 0 ≤ wrap64 (a0 + 1) := by omega
      clear h1
      have e1 : (sz a0 (wrap64 (a1 + 1)) a2 == wrap64 (sz a0 a1 a2 + 4)) = true := by rw [step_n]; simp
      have e2 : (sz a0 a1 (wrap64 (a2 + 1)) == wrap64 (sz a0 a1 a2 + 1)) = true := by rw [step_k]; simp
      have e3 : (sz (wrap64 (a0 + 1)) a1 a2 == wrap64 (sz a0 a1 a2 + 4)) = true := by rw [step_b]; simp
      go_enter Try.func6, Try.ntmps6
      go_wp2_with fail
      refine (newB_any _ _).mono ?_
      rintro e u ⟨rfl, hgu, hsu, hcu, -⟩
      go_wp2_with fail
      refine (newB_any _ _).mono ?_
      rintro e v ⟨rfl, hgv, hsv, hcv, hov⟩
      have hcw : v.cell? ⟨w.heap.size, 134, none⟩ = some (.int .i64 a0) := (hov ⟨w.heap.size, 134, none⟩ hsu).trans hcu
      have hG : Grown w v := grown_trans hgu hgv
      clear hov hgu hgv hcu hsv
      go_wp2_with fail
      refine (size_any _ _ _ _ _ hcw).mono ?_
      rintro e w' ⟨rfl, rfl⟩
      go_wp2_with fail
      refine (size_any _ _ _ _ _ hcw).mono ?_
      rintro e w' ⟨rfl, rfl⟩
      go_wp2_with fail
      refine (size_any _ _ _ _ _ hcw).mono ?_
      rintro e w' ⟨rfl, rfl⟩
      go_wp2_with fail
      refine (size_any _ _ _ _ _ hcv).mono ?_
      rintro e w' ⟨rfl, rfl⟩
      go_wp2
      go_ret
      exact ⟨rfl, hG⟩

/-! ### THE ROW's STEP: WRITTEN OUT: LEAVE IT -/
set_option maxRecDepth 100000 in
theorem lifted (os : Os) (started : os.Started) (H : Type) (enc : TypeId × Value → H) :
    ReturnsInHanded {} Try.checked os 6 .any (Rows.fnStateSizeStepCostsSpec.pre6 enc Try.prog Try.f6 Rows.fnStateSizeStepCostsRow.domain false) (Rows.fnStateSizeStepCostsSpec.post enc Try.prog Try.f6 false true false false) := by
  refine returnsInHanded_of_change (C := Try.checked) own started (by kernel_rfl) Try.func6
    (ChangeSpec.witness6 (enc := enc) (C := Try.checked) false ⟨#[], #[.int .i64 0, .int .i64 0, .int .i64 0], []⟩ 8 (by kernel_rfl) (by kernel_rfl) (by kernel_rfl) (by kernel_rfl)) ?_
  intro W base args ds gs before hval0 hW hcnd _
  have hval : ∀ (j : Nat) t v, Try.f6.params[j]? = some t → args[j]? = some v → Value.okWide Try.prog W .any base t v := hval0
  have hW' := hW
  obtain ⟨p, q, hA0, hV, rfl, hfz, hnd⟩ := hW
  have hA : DataW.TrodAll enc Try.prog W 0 (fun _ => true) true Try.f6.params.toList args.toList ds p := hA0
  rw [Try.params6] at hA hval
  obtain ⟨v0, vs0, d0, ds0, p0, q0, hargs, rfl, rfl, h0, r0⟩ := trodAll_cons hA
  obtain ⟨v1, vs1, d1, ds1, p1, q1, rfl, rfl, rfl, h1, r1⟩ := trodAll_cons r0
  obtain ⟨v2, vs2, d2, ds2, p2, q2, rfl, rfl, rfl, h2, r2⟩ := trodAll_cons r1
  obtain ⟨rfl, rfl, rfl⟩ := trodAll_nil r2
  obtain rfl : args = #[v0, v1, v2] := by cases args; simp_all
  obtain ⟨rfl, rfl⟩ := trodVars_none hV
  obtain ⟨a0, rfl, rfl, rfl, w0⟩ := open_int Try.underlying3 (hval 0 3 v0 rfl rfl) h0
  obtain ⟨a1, rfl, rfl, rfl, w1⟩ := open_int Try.underlying3 (hval 1 3 v1 rfl rfl) h1
  obtain ⟨a2, rfl, rfl, rfl, w2⟩ := open_int Try.underlying3 (hval 2 3 v2 rfl rfl) h2
  clear hA0 hval0
  simp only [List.append_nil] at hW'
  refine (walk a0 a1 a2 w0 w1 w2 W).mono fun e W' ⟨he, hg⟩ => ?_
  subst he
  exact ⟨_, rfl, post_of_same (pa := []) (pv := []) hW' (fun _ _ _ => (trodAll_cons_mk (shut_bool Try.underlying4 _) trodAll_mk0)) (fun sp _ => (trodAll_cons_mk (shut_int Try.underlying3 w0) (trodAll_cons_mk (shut_int Try.underlying3 w1) (trodAll_cons_mk (shut_int Try.underlying3 w2) trodAll_mk0)))) (fun _ _ => rfl) rfl
    (hg.frame _) hg.2.1 (ok_one (by kernel_rfl) rfl (okWide_bool_mk Try.underlying4 _))⟩

theorem over : Rows.fnStateSizeStepCostsRow.holds Try.pinned (OpenSpec.ofChange Rows.fnStateSizeStepCostsSpec) :=
  OpenClaim.holds_of_wide 6 Try.f6 rfl rfl rfl rfl rfl rfl rfl ⟨rfl, rfl, rfl, rfl, rfl⟩ rfl rfl rfl rfl rfl (by kernel_rfl) Try.func6 (by kernel_rfl)
    (of_decide_eq_true (by kernel_rfl)) (by unfold Func.isWrapper; first | (rw [if_pos (by decide +kernel)]; kernel_rfl) | (rw [if_neg (by decide +kernel)]; exact ⟨rfl, rfl⟩))
    (fun os started H enc _ => lifted os started H enc)

/-- ████ THE STATEMENT ████ -/
theorem proved : Rows.FnStateSizeStepCostsSaid :=
  over
#print axioms proved
end Go.Proofs.Qxb6616228a.fnStateSizeStepCosts
