/-
  'Rows.FnUID11TextDecodesAndSortsAsPayloadSaid' ('example.com/lexident/lexident/zzlaws_root_b1.FnUID11TextDecodesAndSortsAsPayload'). The frame is the guide's template, turned by hand to two pointers to an array of 11 bytes and two integers.
-/
import Derived.Test.Qxb6617629aRows
import Derived.WalkKit
import Derived.ProofKit
import Derived.OpenShut
import Derived.ChangeOld
import Derived.Below
import Derived.Test.Qxb6617629aMain
namespace Go.Proofs.Qxb6617629a.fnUID11TextDecodesAndSortsAsPayload
open Go.ChangeShapes Go.WideShapes Go.ChangeAt Go.RowKit
set_option linter.unusedVariables false

theorem own : ownKnob Try.prog.godebug = none := by kernel_rfl
theorem laidOut : laidOutB Try.prog = true := by kernel_rfl
theorem cells24 : Try.prog.cellsOf 24 = 11 := by kernel_rfl
theorem cells5 : Try.prog.cellsOf 5 = 1 := by kernel_rfl

/-- WHAT THE WALK IS TOLD OF A POINTER THAT CAME IN: it is nil, or it leads to 11 bytes. -/
def IsPtr (w : World) (a : Option Addr) : Prop := a = none ∨ ∃ (b off : Nat) (c : Nat → Int), a = some ⟨b, off, none⟩ ∧ ∀ i, i < 11 → w.cell? ⟨b, off + i, none⟩ = some (.int .u8 (c i))

theorem bytes_of {H : Type} {enc : TypeId × Value → H} {W : World} {base : Nat} {spare : Nat → Bool} {held : Bool} {fuel : Nat} {cs : List Value} {y : DataW H × List MemPlace}
    (h : DataW.trod enc Try.prog W base spare held fuel 24 cs = some y) : ∃ c : Nat → Int, ∀ i, i < 11 → cs[i]? = some (.int .u8 (c i)) := by
  obtain ⟨xs, m, rfl, rfl, hl, hx, hi⟩ := DataW.trod_array Try.underlying24 h
  have each : ∀ i, ∃ n : Int, i < 11 → cs[i]? = some (.int .u8 n) := fun i => by
    by_cases h11 : i < 11
    · have h1 := hi i h11
      rw [cells5, Nat.mul_one, List.getElem?_eq_getElem (by omega)] at h1
      obtain ⟨n, hn, -, -⟩ := DataW.trod_int Try.underlying5 h1
      refine ⟨n, fun _ => ?_⟩
      have h2 : ((cs.drop i).take 1)[0]? = some (.int .u8 n) := by rw [hn]; rfl
      simpa using h2
    · exact ⟨0, fun h => absurd h h11⟩
  exact ⟨fun i => Classical.choose (each i), fun i h11 => Classical.choose_spec (each i) h11⟩

/-! ### STEP 1: THE WALK -/
theorem walk (a0 : Option Addr) (a1 : Int) (a2 : Option Addr) (a3 : Int) (w : World) (w0 : IsPtr w a0) (w1 : (Lit.int .u64 a1).wf = true) (w2 : IsPtr w a2) (w3 : (Lit.int .u64 a3).wf = true) :
    Calls Try.prog 3 #[.pointer a0, .int .u64 a1, .pointer a2, .int .u64 a3] w fun e w' => e = .returned (.bool true) ∧ Below w.heap.size w w' := by
  obtain ⟨l1, u1⟩ := bounds_u64 w1
  obtain ⟨l3, u3⟩ := bounds_u64 w3
  obtain ⟨a, rfl⟩ : ∃ a : Nat, a1 = (a : Int) := ⟨a1.toNat, by omega⟩
  obtain ⟨b, rfl⟩ : ∃ b : Nat, a3 = (b : Int) := ⟨a3.toNat, by omega⟩
  have ha : a < 18446744073709551616 := by omega
  have hb : b < 18446744073709551616 := by omega
  rcases w0 with rfl | ⟨b0, o0, c, rfl, h0⟩
  · rcases w2 with rfl | ⟨b1, o1, d, rfl, h1⟩
    · exact main_nn a b w ha hb
    · exact main_ns b1 o1 d a b w ha hb h1
  · rcases w2 with rfl | ⟨b1, o1, d, rfl, h1⟩
    · exact main_sn b0 o0 c a b w ha hb h0
    · exact main_ss b0 o0 c b1 o1 d a b w ha hb h0 h1

/-! ### THE ROW's STEP -/
set_option maxRecDepth 100000 in
theorem lifted (os : Os) (started : os.Started) (H : Type) (enc : TypeId × Value → H) :
    ReturnsInHanded {} Try.checked os 3 .any (Rows.fnUID11TextDecodesAndSortsAsPayloadSpec.pre6 enc Try.prog Try.f3 Rows.fnUID11TextDecodesAndSortsAsPayloadRow.domain false) (Rows.fnUID11TextDecodesAndSortsAsPayloadSpec.post enc Try.prog Try.f3 false true false false) := by
  refine returnsInHanded_of_change (C := Try.checked) own started (by kernel_rfl) Try.func3
    (ChangeSpec.witness6 (enc := enc) (C := Try.checked) false ⟨#[], #[.pointer none, .int .u64 0, .pointer none, .int .u64 0], []⟩ 8 (by kernel_rfl) (by kernel_rfl) (by kernel_rfl) (by kernel_rfl)) ?_
  intro W base args ds gs before hval0 hW hcnd _
  have hval : ∀ (j : Nat) t v, Try.f3.params[j]? = some t → args[j]? = some v → Value.okWide Try.prog W .any base t v := hval0
  have hW' := hW
  obtain ⟨p, q, hA0, hV, rfl, hfz, hnd⟩ := hW
  have hA : DataW.TrodAll enc Try.prog W 0 (fun _ => true) true Try.f3.params.toList args.toList ds p := hA0
  rw [Try.params3] at hA hval
  obtain ⟨v0, vs0, d0, ds0, p0, q0, hargs, rfl, rfl, h0, r0⟩ := trodAll_cons hA
  obtain ⟨v1, vs1, d1, ds1, p1, q1, rfl, rfl, rfl, h1, r1⟩ := trodAll_cons r0
  obtain ⟨v2, vs2, d2, ds2, p2, q2, rfl, rfl, rfl, h2, r2⟩ := trodAll_cons r1
  obtain ⟨v3, vs3, d3, ds3, p3, q3, rfl, rfl, rfl, h3, r3⟩ := trodAll_cons r2
  obtain ⟨rfl, rfl, rfl⟩ := trodAll_nil r3
  obtain rfl : args = #[v0, v1, v2, v3] := by cases args; simp_all
  obtain ⟨rfl, rfl⟩ := trodVars_none hV
  have k0 := h0
  have lt0 : ∀ x ∈ p0, x.block < W.heap.size := by obtain ⟨m, hm⟩ := k0; exact DataW.trod_lt m _ _ _ hm
  obtain ⟨a0, e0, w0⟩ : ∃ a0, v0 = .pointer a0 ∧ IsPtr W a0 := by
    rcases ChangeShapes.open_ptr Try.underlying22 (by rw [cells24]; omega) (hval 0 22 v0 rfl rfl) h0 with ⟨h, _, _⟩ | ⟨b, off, cs, y, fuel, h, _, _, hlen, hcell, hy⟩
    · exact ⟨none, h, .inl rfl⟩
    · obtain ⟨c, hc⟩ := bytes_of hy
      exact ⟨_, h, .inr ⟨b, off, c, rfl, fun i hi => (hcell i (by rw [cells24]; exact hi)).trans (hc i hi)⟩⟩
  subst e0
  obtain ⟨a1, rfl, rfl, rfl, w1⟩ := open_int Try.underlying23 (hval 1 23 v1 rfl rfl) h1
  have k2 := h2
  have lt2 : ∀ x ∈ p2, x.block < W.heap.size := by obtain ⟨m, hm⟩ := k2; exact DataW.trod_lt m _ _ _ hm
  obtain ⟨a2, e2, w2⟩ : ∃ a2, v2 = .pointer a2 ∧ IsPtr W a2 := by
    rcases ChangeShapes.open_ptr Try.underlying22 (by rw [cells24]; omega) (hval 2 22 v2 rfl rfl) h2 with ⟨h, _, _⟩ | ⟨b, off, cs, y, fuel, h, _, _, hlen, hcell, hy⟩
    · exact ⟨none, h, .inl rfl⟩
    · obtain ⟨c, hc⟩ := bytes_of hy
      exact ⟨_, h, .inr ⟨b, off, c, rfl, fun i hi => (hcell i (by rw [cells24]; exact hi)).trans (hc i hi)⟩⟩
  subst e2
  obtain ⟨a3, rfl, rfl, rfl, w3⟩ := open_int Try.underlying23 (hval 3 23 v3 rfl rfl) h3
  clear hA0 hval0
  refine (walk a0 a1 a2 a3 W w0 w1 w2 w3).mono fun e W' ⟨he, bel⟩ => ?_
  subst he
  exact ⟨_, rfl, _, _, _, [], _, [], hW', trodAll_mk1 (shut_bool Try.underlying4 _), (trodAll_cons_mk (Below.trod laidOut (by kernel_rfl) (of_decide_eq_true (by kernel_rfl)) k0 bel lt0) (trodAll_cons_mk (shut_int Try.underlying23 w1) (trodAll_cons_mk (Below.trod laidOut (by kernel_rfl) (of_decide_eq_true (by kernel_rfl)) k2 bel lt2) (trodAll_cons_mk (shut_int Try.underlying23 w3) trodAll_mk0)))), rfl, bel.frame _, fun h => by cases h⟩

theorem over : Rows.fnUID11TextDecodesAndSortsAsPayloadRow.holds Try.pinned (OpenSpec.ofChange Rows.fnUID11TextDecodesAndSortsAsPayloadSpec) :=
  OpenClaim.holds_of_wide 3 Try.f3 rfl rfl rfl rfl rfl rfl rfl ⟨rfl, rfl, rfl, rfl, rfl⟩ rfl rfl rfl rfl rfl (by kernel_rfl) Try.func3 (by kernel_rfl)
    (of_decide_eq_true (by kernel_rfl)) (by unfold Func.isWrapper; first | (rw [if_pos (by decide +kernel)]; kernel_rfl) | (rw [if_neg (by decide +kernel)]; exact ⟨rfl, rfl⟩))
    (fun os started H enc _ => lifted os started H enc)

/-- ████ THE STATEMENT ████ -/
theorem proved : Rows.FnUID11TextDecodesAndSortsAsPayloadSaid := over
#print axioms proved
end Go.Proofs.Qxb6617629a.fnUID11TextDecodesAndSortsAsPayload
