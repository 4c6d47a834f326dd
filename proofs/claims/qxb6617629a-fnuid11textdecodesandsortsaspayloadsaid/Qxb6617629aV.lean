import Derived.Test.Qxb6617629aW
namespace Go.Proofs.Qxb6617629a
open Go.RowKit

/-- block B is a row of 11 cells, none frozen; those from place k on hold u's text -/
def Part (w : World) (B u k : Nat) : Prop := ∃ (M : Array Value) (t : TypeId), w.heap[B]? = some (.cells M t (0, 0)) ∧ M.size = 11 ∧ ∀ j, k ≤ j → j < 11 → M[j]? = some (.int .u8 (tx u j))

theorem cell_of_row {w : World} {g : Nat} {t : TypeId} {cs : Array Value} (h : w.heap[g]? = some (.cells cs t (0, 0))) (j : Nat) : w.cell? ⟨g, j, none⟩ = cs[j]? := by
  simp [World.cell?, h]

/-- the alphabet is the one that 'sym' spells -/
theorem alph (n : Nat) (h : n < (⟨#[49, 50, 51, 52, 53, 54, 55, 56, 57, 65, 66, 67, 68, 69, 70, 71, 72, 74, 75, 76, 77, 78, 80, 81, 82, 83, 84, 85, 86, 87, 88, 89, 90, 97, 98, 99, 100, 101, 102, 103, 104, 105, 106, 107, 109, 110, 111, 112, 113, 114, 115, 116, 117, 118, 119, 120, 121, 122]⟩ : ByteArray).size) : (((⟨#[49, 50, 51, 52, 53, 54, 55, 56, 57, 65, 66, 67, 68, 69, 70, 71, 72, 74, 75, 76, 77, 78, 80, 81, 82, 83, 84, 85, 86, 87, 88, 89, 90, 97, 98, 99, 100, 101, 102, 103, 104, 105, 106, 107, 109, 110, 111, 112, 113, 114, 115, 116, 117, 118, 119, 120, 121, 122]⟩ : ByteArray)[n]'h).toNat : Int) = sym n := by
  have key : ∀ m : Fin 58, (((⟨#[49, 50, 51, 52, 53, 54, 55, 56, 57, 65, 66, 67, 68, 69, 70, 71, 72, 74, 75, 76, 77, 78, 80, 81, 82, 83, 84, 85, 86, 87, 88, 89, 90, 97, 98, 99, 100, 101, 102, 103, 104, 105, 106, 107, 109, 110, 111, 112, 113, 114, 115, 116, 117, 118, 119, 120, 121, 122]⟩ : ByteArray)[m.val]'m.isLt).toNat : Int) = sym m.val := by decide
  exact key ⟨n, h⟩

theorem Part.step {w : World} {B u j : Nat} {X : Int} (h : Part w B u (j + 1)) (hj : j ≤ 10) (hX : X = tx u j) : Part (w.setCell ⟨B, j, none⟩ (.int .u8 X)).drew B u j := by
  obtain ⟨M, t, hg, hM, hT⟩ := h
  refine ⟨_, t, heap_setCell_same w B j M t _ hg, by simp [hM], fun i h1 h2 => ?_⟩
  by_cases e : i = j
  · subst e
    rw [hX]
    simp [Array.getElem?_setIfInBounds]; omega
  · rw [← hT i (by omega) h2]
    simp only [Array.getElem?_setIfInBounds]
    rw [if_neg (by omega)]

set_option maxHeartbeats 1000000 in
theorem write7_any (B u : Nat) (w : World) (hu : u < 18446744073709551616) (hP : Part w B u 11) :
    Calls Try.prog 7 #[.pointer (some ⟨B, 0, none⟩), .int .u64 u] w fun e w' => e = .returned (.tuple #[]) ∧ Part w' B u 0 ∧ Below B w w' ∧ ∀ k, k ≠ B → w'.heap[k]? = w.heap[k]? := by
  have HP : Hid (Part w B u 11) := hP
  clear hP
  go_enter Try.func7, Try.ntmps7
  go_wp2
  go_loopw [4, 5] (fun v i wr => ((∃ j : Nat, j ≤ 10 ∧ i = .int .i64 j ∧ v = .int .u64 (hi u (j + 1) : Nat) ∧ Part wr B u (j + 1)) ∨ (i = .int .i64 (-1) ∧ Part wr B u 0)) ∧ Below B w wr ∧ ∀ k, k ≠ B → wr.heap[k]? = w.heap[k]?) (fun _ i _ => (intOf i + 1).toNat)
  case atStart => exact ⟨.inl ⟨10, by omega, rfl, by rw [hi_all], HP.out⟩, Below.refl _ _, fun _ _ => rfl⟩
  case round =>
    obtain ⟨hr, hB, hO⟩ := hrel
    have HB : Hid (Below B w wr) := hB
    have HO : Hid (∀ k, k ≠ B → wr.heap[k]? = w.heap[k]?) := hO
    clear hB hO
    rcases hr with ⟨j, hj, rfl, rfl, M, t, hg, hM, hT⟩ | ⟨rfl, hP⟩
    · have hb := hi_le u (j + 1)
      have hb1 : (hi u (j + 1) : Int) ≤ 18446744073709551615 := by omega
      have hj1 : (j : Int) ≤ 10 := by omega
      have HG : Hid (wr.heap[B]? = some (.cells M t (0, 0))) := hg
      have HT : Hid (∀ i, j + 1 ≤ i → i < 11 → M[i]? = some (.int .u8 (tx u i))) := hT
      obtain ⟨v0, c0⟩ : ∃ v0, wr.cell? ⟨B, j, none⟩ = some v0 := by rw [cell_of_row HG.out]; exact ⟨_, Array.getElem?_eq_getElem (by omega)⟩
      have z0 := frozen_of_row wr B j M t HG.out
      have hd := dg_le u j
      have hdI : (dg u j : Int) < 58 := by omega
      have m1 : (hi u (j + 1) : Int) % 58 = (dg u j : Int) := by unfold dg; omega
      have m2 : (hi u (j + 1) : Int).tmod 58 = (dg u j : Int) := by rw [Int.tmod_eq_emod_of_nonneg (by omega)]; exact m1
      clear hg hT hb
      go_wp2
      go_region
      simp only [alph]
      have hS : Part (wr.setCell ⟨B, j, none⟩ (.int .u8 (sym (dg u j)))).drew B u j := Part.step ⟨M, t, HG.out, hM, HT.out⟩ hj rfl
      have hBB : Below B w (wr.setCell ⟨B, j, none⟩ (.int .u8 (sym (dg u j)))).drew := (HB.out.setCell (Nat.le_refl _) _).drew
      have hOO : ∀ k, k ≠ B → (wr.setCell ⟨B, j, none⟩ (.int .u8 (sym (dg u j)))).drew.heap[k]? = w.heap[k]? := fun k hk => (heap_setCell_other wr ⟨B, j, none⟩ k _ hk).trans (HO.out k hk)
      have HS : Hid (Part _ B u j ∧ Below B w _ ∧ ∀ k, k ≠ B → _) := ⟨hS, hBB, hOO⟩
      have hq := hi_step u j (by omega)
      have HQ : Hid (hi u j = hi u (j + 1) / 58) := hq
      clear hS hBB hOO hq m1 m2 c0 z0
      go_wp2
      go_roundw
      case rel =>
        refine ⟨?_, HS.out.2⟩
        cases j with
        | zero => exact .inr ⟨by go_num, HS.out.1⟩
        | succ i => exact .inl ⟨i, by omega, by go_num, by rw [HQ.out]; go_num, HS.out.1⟩
      case measure => simp [intOf]
    · go_wp2
      go_end0
      exact ⟨rfl, hP, HB.out, HO.out⟩

theorem write_any (B u : Nat) (w : World) (hu : u < 18446744073709551616) (hP : Part w B u 11) :
    Calls Try.prog 4 #[.pointer (some ⟨B, 0, none⟩), .int .u64 u] w fun e w' => e = .returned (.tuple #[]) ∧ Part w' B u 0 ∧ Below B w w' ∧ ∀ k, k ≠ B → w'.heap[k]? = w.heap[k]? := by
  have K := write7_any B u w hu hP
  clear hP
  go_enter Try.func4, Try.ntmps4
  go_wp2_with fail
  refine K.mono ?_
  rintro e w' ⟨rfl, h⟩
  have H : Hid _ := h
  clear K h
  go_wp2
  go_end0
  exact ⟨rfl, H.out⟩

theorem Part.text {w : World} {B u : Nat} (h : Part w B u 0) : Text w B u := by
  obtain ⟨M, t, hg, hM, hT⟩ := h
  intro j hj
  rw [cell_of_row hg]
  exact hT j (Nat.zero_le _) hj
theorem Part.other {w w' : World} {B u k : Nat} (h : Part w B u k) (e : w'.heap[B]? = w.heap[B]?) : Part w' B u k := by
  obtain ⟨M, t, hg, hM, hT⟩ := h
  exact ⟨M, t, e.trans hg, hM, hT⟩
end Go.Proofs.Qxb6617629a
