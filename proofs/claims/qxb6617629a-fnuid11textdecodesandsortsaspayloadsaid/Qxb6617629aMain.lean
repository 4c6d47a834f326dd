import Derived.Test.Qxb6617629aV
import Derived.Deep.DeepFit
namespace Go.Proofs.Qxb6617629a
open Go.RowKit

theorem two_rows (w : World) (M N : Array Value) (hM : M.size = 11) (hN : N.size = 11) (a b : Nat) :
    Part ((w.alloc (.cells M 24)).alloc (.cells N 24)) w.heap.size a 11 ∧ Part ((w.alloc (.cells M 24)).alloc (.cells N 24)) (w.heap.size + 1) b 11 ∧ Below w.heap.size w ((w.alloc (.cells M 24)).alloc (.cells N 24)) := by
  have e1 : ((w.alloc (.cells M 24)).alloc (.cells N 24)).heap[w.heap.size]? = some (.cells M 24 (0, 0)) := by
    rw [Below.heap_alloc _ _ _ (by simp)]; exact heap_alloc_new w _
  have e2 : ((w.alloc (.cells M 24)).alloc (.cells N 24)).heap[w.heap.size + 1]? = some (.cells N 24 (0, 0)) := by
    have := heap_alloc_new (w.alloc (.cells M 24)) (.cells N 24)
    simpa using this
  exact ⟨⟨M, 24, e1, hM, fun j h1 h2 => by omega⟩, ⟨N, 24, e2, hN, fun j h1 h2 => by omega⟩, ((Below.refl _ _).alloc (Nat.le_refl _) _).alloc (by simp) _⟩

theorem lt_of_cell {w : World} {a : Addr} {v : Value} (h : w.cell? a = some v) : a.block < w.heap.size := by
  by_cases hl : a.block < w.heap.size
  · exact hl
  · exfalso
    have e : w.heap[a.block]? = none := by simp; omega
    simp [World.cell?, e] at h

set_option maxHeartbeats 2000000 in
theorem main_nn (a b : Nat) (w : World) (ha : a < 18446744073709551616) (hb : b < 18446744073709551616) :
    Calls Try.prog 3 #[.pointer none, .int .u64 a, .pointer none, .int .u64 b] w fun e w' => e = .returned (.bool true) ∧ Below w.heap.size w w' := by
  have T := two_rows w #[.int .u8 0, .int .u8 0, .int .u8 0, .int .u8 0, .int .u8 0, .int .u8 0, .int .u8 0, .int .u8 0, .int .u8 0, .int .u8 0, .int .u8 0] #[.int .u8 0, .int .u8 0, .int .u8 0, .int .u8 0, .int .u8 0, .int .u8 0, .int .u8 0, .int .u8 0, .int .u8 0, .int .u8 0, .int .u8 0] rfl rfl a b
  have HT : Hid _ := T
  clear T
  have HA : Hid (a < 18446744073709551616) := ha
  have HB : Hid (b < 18446744073709551616) := hb
  clear ha hb
  go_enter Try.func3, Try.ntmps3
  go_wp2_with fail
  go_fit (write_any _ a _ HA.out HT.out.1)
  rintro e x1 ⟨rfl, hP, hB, hO⟩
  have P0 : Hid (Part x1 w.heap.size a 0) := hP
  have P1 : Hid (Part x1 (w.heap.size + 1) b 11) := HT.out.2.1.other (hO _ (by omega))
  have B1 : Hid (Below w.heap.size w x1) := HT.out.2.2.trans hB
  clear hP hB hO HT
  go_wp2_with fail
  go_fit (write_any _ b _ HB.out P1.out)
  rintro e x2 ⟨rfl, hP, hB, hO⟩
  have Q0 : Hid (Part x2 w.heap.size a 0) := P0.out.other (hO _ (by omega))
  have Q1 : Hid (Part x2 (w.heap.size + 1) b 0) := hP
  have B2 : Hid (Below w.heap.size w x2) := B1.out.trans (hB.mono (by omega))
  clear hP hB hO P0 P1 B1
  go_wp2_with fail
  go_fit (decode_any _ a HA.out _ Q0.out.text)
  rintro e x3 ⟨rfl, rfl⟩
  go_wp2_with fail
  go_fit (decode_any _ b HB.out _ Q1.out.text)
  rintro e x3 ⟨rfl, rfl⟩
  have K := compare_any w.heap.size (w.heap.size + 1) a b x2 HA.out HB.out Q0.out.text Q1.out.text
  clear Q0 Q1
  by_cases h1 : a < b
  · have e1 : cmp a b = -1 := by unfold cmp; rw [if_pos h1]
    rw [e1] at K
    clear e1
    go_wp2_with fail
    go_fit K
    rintro e x4 ⟨rfl, q, rfl⟩
    clear K
    go_wp2
    go_ret
    exact ⟨rfl, below_drewN B2.out q⟩
  by_cases h2 : b < a
  · have e1 : cmp a b = 1 := by unfold cmp; rw [if_neg h1, if_pos h2]
    rw [e1] at K
    clear e1
    go_wp2_with fail
    go_fit K
    rintro e x4 ⟨rfl, q, rfl⟩
    clear K
    go_wp2
    go_ret
    exact ⟨rfl, below_drewN B2.out q⟩
  · have e1 : cmp a b = 0 := by unfold cmp; rw [if_neg h1, if_neg h2]
    rw [e1] at K
    clear e1
    go_wp2_with fail
    go_fit K
    rintro e x4 ⟨rfl, q, rfl⟩
    clear K
    go_wp2
    go_ret
    exact ⟨rfl, below_drewN B2.out q⟩

set_option maxHeartbeats 2000000 in
theorem main_ns (b1 o1 : Nat) (d : Nat → Int) (a b : Nat) (w : World) (ha : a < 18446744073709551616) (hb : b < 18446744073709551616) (h1 : ∀ i, i < 11 → w.cell? ⟨b1, o1 + i, none⟩ = some (.int .u8 (d i))) :
    Calls Try.prog 3 #[.pointer none, .int .u64 a, .pointer (some ⟨b1, o1, none⟩), .int .u64 b] w fun e w' => e = .returned (.bool true) ∧ Below w.heap.size w w' := by
  have T := two_rows w #[.int .u8 0, .int .u8 0, .int .u8 0, .int .u8 0, .int .u8 0, .int .u8 0, .int .u8 0, .int .u8 0, .int .u8 0, .int .u8 0, .int .u8 0] #[.int .u8 (d 0), .int .u8 (d 1), .int .u8 (d 2), .int .u8 (d 3), .int .u8 (d 4), .int .u8 (d 5), .int .u8 (d 6), .int .u8 (d 7), .int .u8 (d 8), .int .u8 (d 9), .int .u8 (d 10)] rfl rfl a b
  have HT : Hid _ := T
  clear T
  have HA : Hid (a < 18446744073709551616) := ha
  have HB : Hid (b < 18446744073709551616) := hb
  clear ha hb
  have l1 : b1 < w.heap.size := lt_of_cell (h1 0 (by omega))
  have g0 : w.cell? ⟨b1, o1, none⟩ = some (.int .u8 (d 0)) := h1 0 (by omega)
  have g1 : w.cell? ⟨b1, o1 + 1, none⟩ = some (.int .u8 (d 1)) := h1 1 (by omega)
  have g2 : w.cell? ⟨b1, o1 + 2, none⟩ = some (.int .u8 (d 2)) := h1 2 (by omega)
  have g3 : w.cell? ⟨b1, o1 + 3, none⟩ = some (.int .u8 (d 3)) := h1 3 (by omega)
  have g4 : w.cell? ⟨b1, o1 + 4, none⟩ = some (.int .u8 (d 4)) := h1 4 (by omega)
  have g5 : w.cell? ⟨b1, o1 + 5, none⟩ = some (.int .u8 (d 5)) := h1 5 (by omega)
  have g6 : w.cell? ⟨b1, o1 + 6, none⟩ = some (.int .u8 (d 6)) := h1 6 (by omega)
  have g7 : w.cell? ⟨b1, o1 + 7, none⟩ = some (.int .u8 (d 7)) := h1 7 (by omega)
  have g8 : w.cell? ⟨b1, o1 + 8, none⟩ = some (.int .u8 (d 8)) := h1 8 (by omega)
  have g9 : w.cell? ⟨b1, o1 + 9, none⟩ = some (.int .u8 (d 9)) := h1 9 (by omega)
  have g10 : w.cell? ⟨b1, o1 + 10, none⟩ = some (.int .u8 (d 10)) := h1 10 (by omega)
  clear h1
  go_enter Try.func3, Try.ntmps3
  go_wp2_with fail
  go_fit (write_any _ a _ HA.out HT.out.1)
  rintro e x1 ⟨rfl, hP, hB, hO⟩
  have P0 : Hid (Part x1 w.heap.size a 0) := hP
  have P1 : Hid (Part x1 (w.heap.size + 1) b 11) := HT.out.2.1.other (hO _ (by omega))
  have B1 : Hid (Below w.heap.size w x1) := HT.out.2.2.trans hB
  clear hP hB hO HT
  clear g0 g1 g2 g3 g4 g5 g6 g7 g8 g9 g10
  go_wp2_with fail
  go_fit (write_any _ b _ HB.out P1.out)
  rintro e x2 ⟨rfl, hP, hB, hO⟩
  have Q0 : Hid (Part x2 w.heap.size a 0) := P0.out.other (hO _ (by omega))
  have Q1 : Hid (Part x2 (w.heap.size + 1) b 0) := hP
  have B2 : Hid (Below w.heap.size w x2) := B1.out.trans (hB.mono (by omega))
  clear hP hB hO P0 P1 B1
  go_wp2_with fail
  go_fit (decode_any _ a HA.out _ Q0.out.text)
  rintro e x3 ⟨rfl, rfl⟩
  go_wp2_with fail
  go_fit (decode_any _ b HB.out _ Q1.out.text)
  rintro e x3 ⟨rfl, rfl⟩
  have K := compare_any w.heap.size (w.heap.size + 1) a b x2 HA.out HB.out Q0.out.text Q1.out.text
  clear Q0 Q1
  by_cases h1 : a < b
  · have e1 : cmp a b = -1 := by unfold cmp; rw [if_pos h1]
    rw [e1] at K
    clear e1
    go_wp2_with fail
    go_fit K
    rintro e x4 ⟨rfl, q, rfl⟩
    clear K
    go_wp2
    go_ret
    exact ⟨rfl, below_drewN B2.out q⟩
  by_cases h2 : b < a
  · have e1 : cmp a b = 1 := by unfold cmp; rw [if_neg h1, if_pos h2]
    rw [e1] at K
    clear e1
    go_wp2_with fail
    go_fit K
    rintro e x4 ⟨rfl, q, rfl⟩
    clear K
    go_wp2
    go_ret
    exact ⟨rfl, below_drewN B2.out q⟩
  · have e1 : cmp a b = 0 := by unfold cmp; rw [if_neg h1, if_neg h2]
    rw [e1] at K
    clear e1
    go_wp2_with fail
    go_fit K
    rintro e x4 ⟨rfl, q, rfl⟩
    clear K
    go_wp2
    go_ret
    exact ⟨rfl, below_drewN B2.out q⟩

set_option maxHeartbeats 2000000 in
theorem main_sn (b0 o0 : Nat) (c : Nat → Int) (a b : Nat) (w : World) (ha : a < 18446744073709551616) (hb : b < 18446744073709551616) (h0 : ∀ i, i < 11 → w.cell? ⟨b0, o0 + i, none⟩ = some (.int .u8 (c i))) :
    Calls Try.prog 3 #[.pointer (some ⟨b0, o0, none⟩), .int .u64 a, .pointer none, .int .u64 b] w fun e w' => e = .returned (.bool true) ∧ Below w.heap.size w w' := by
  have T := two_rows w #[.int .u8 (c 0), .int .u8 (c 1), .int .u8 (c 2), .int .u8 (c 3), .int .u8 (c 4), .int .u8 (c 5), .int .u8 (c 6), .int .u8 (c 7), .int .u8 (c 8), .int .u8 (c 9), .int .u8 (c 10)] #[.int .u8 0, .int .u8 0, .int .u8 0, .int .u8 0, .int .u8 0, .int .u8 0, .int .u8 0, .int .u8 0, .int .u8 0, .int .u8 0, .int .u8 0] rfl rfl a b
  have HT : Hid _ := T
  clear T
  have HA : Hid (a < 18446744073709551616) := ha
  have HB : Hid (b < 18446744073709551616) := hb
  clear ha hb
  have l0 : b0 < w.heap.size := lt_of_cell (h0 0 (by omega))
  have f0 : w.cell? ⟨b0, o0, none⟩ = some (.int .u8 (c 0)) := h0 0 (by omega)
  have f1 : w.cell? ⟨b0, o0 + 1, none⟩ = some (.int .u8 (c 1)) := h0 1 (by omega)
  have f2 : w.cell? ⟨b0, o0 + 2, none⟩ = some (.int .u8 (c 2)) := h0 2 (by omega)
  have f3 : w.cell? ⟨b0, o0 + 3, none⟩ = some (.int .u8 (c 3)) := h0 3 (by omega)
  have f4 : w.cell? ⟨b0, o0 + 4, none⟩ = some (.int .u8 (c 4)) := h0 4 (by omega)
  have f5 : w.cell? ⟨b0, o0 + 5, none⟩ = some (.int .u8 (c 5)) := h0 5 (by omega)
  have f6 : w.cell? ⟨b0, o0 + 6, none⟩ = some (.int .u8 (c 6)) := h0 6 (by omega)
  have f7 : w.cell? ⟨b0, o0 + 7, none⟩ = some (.int .u8 (c 7)) := h0 7 (by omega)
  have f8 : w.cell? ⟨b0, o0 + 8, none⟩ = some (.int .u8 (c 8)) := h0 8 (by omega)
  have f9 : w.cell? ⟨b0, o0 + 9, none⟩ = some (.int .u8 (c 9)) := h0 9 (by omega)
  have f10 : w.cell? ⟨b0, o0 + 10, none⟩ = some (.int .u8 (c 10)) := h0 10 (by omega)
  clear h0
  go_enter Try.func3, Try.ntmps3
  go_wp2_with fail
  go_fit (write_any _ a _ HA.out HT.out.1)
  rintro e x1 ⟨rfl, hP, hB, hO⟩
  have P0 : Hid (Part x1 w.heap.size a 0) := hP
  have P1 : Hid (Part x1 (w.heap.size + 1) b 11) := HT.out.2.1.other (hO _ (by omega))
  have B1 : Hid (Below w.heap.size w x1) := HT.out.2.2.trans hB
  clear hP hB hO HT
  clear f0 f1 f2 f3 f4 f5 f6 f7 f8 f9 f10
  go_wp2_with fail
  go_fit (write_any _ b _ HB.out P1.out)
  rintro e x2 ⟨rfl, hP, hB, hO⟩
  have Q0 : Hid (Part x2 w.heap.size a 0) := P0.out.other (hO _ (by omega))
  have Q1 : Hid (Part x2 (w.heap.size + 1) b 0) := hP
  have B2 : Hid (Below w.heap.size w x2) := B1.out.trans (hB.mono (by omega))
  clear hP hB hO P0 P1 B1
  go_wp2_with fail
  go_fit (decode_any _ a HA.out _ Q0.out.text)
  rintro e x3 ⟨rfl, rfl⟩
  go_wp2_with fail
  go_fit (decode_any _ b HB.out _ Q1.out.text)
  rintro e x3 ⟨rfl, rfl⟩
  have K := compare_any w.heap.size (w.heap.size + 1) a b x2 HA.out HB.out Q0.out.text Q1.out.text
  clear Q0 Q1
  by_cases h1 : a < b
  · have e1 : cmp a b = -1 := by unfold cmp; rw [if_pos h1]
    rw [e1] at K
    clear e1
    go_wp2_with fail
    go_fit K
    rintro e x4 ⟨rfl, q, rfl⟩
    clear K
    go_wp2
    go_ret
    exact ⟨rfl, below_drewN B2.out q⟩
  by_cases h2 : b < a
  · have e1 : cmp a b = 1 := by unfold cmp; rw [if_neg h1, if_pos h2]
    rw [e1] at K
    clear e1
    go_wp2_with fail
    go_fit K
    rintro e x4 ⟨rfl, q, rfl⟩
    clear K
    go_wp2
    go_ret
    exact ⟨rfl, below_drewN B2.out q⟩
  · have e1 : cmp a b = 0 := by unfold cmp; rw [if_neg h1, if_neg h2]
    rw [e1] at K
    clear e1
    go_wp2_with fail
    go_fit K
    rintro e x4 ⟨rfl, q, rfl⟩
    clear K
    go_wp2
    go_ret
    exact ⟨rfl, below_drewN B2.out q⟩

set_option maxHeartbeats 2000000 in
theorem main_ss (b0 o0 : Nat) (c : Nat → Int) (b1 o1 : Nat) (d : Nat → Int) (a b : Nat) (w : World) (ha : a < 18446744073709551616) (hb : b < 18446744073709551616) (h0 : ∀ i, i < 11 → w.cell? ⟨b0, o0 + i, none⟩ = some (.int .u8 (c i))) (h1 : ∀ i, i < 11 → w.cell? ⟨b1, o1 + i, none⟩ = some (.int .u8 (d i))) :
    Calls Try.prog 3 #[.pointer (some ⟨b0, o0, none⟩), .int .u64 a, .pointer (some ⟨b1, o1, none⟩), .int .u64 b] w fun e w' => e = .returned (.bool true) ∧ Below w.heap.size w w' := by
  have T := two_rows w #[.int .u8 (c 0), .int .u8 (c 1), .int .u8 (c 2), .int .u8 (c 3), .int .u8 (c 4), .int .u8 (c 5), .int .u8 (c 6), .int .u8 (c 7), .int .u8 (c 8), .int .u8 (c 9), .int .u8 (c 10)] #[.int .u8 (d 0), .int .u8 (d 1), .int .u8 (d 2), .int .u8 (d 3), .int .u8 (d 4), .int .u8 (d 5), .int .u8 (d 6), .int .u8 (d 7), .int .u8 (d 8), .int .u8 (d 9), .int .u8 (d 10)] rfl rfl a b
  have HT : Hid _ := T
  clear T
  have HA : Hid (a < 18446744073709551616) := ha
  have HB : Hid (b < 18446744073709551616) := hb
  clear ha hb
  have l0 : b0 < w.heap.size := lt_of_cell (h0 0 (by omega))
  have f0 : w.cell? ⟨b0, o0, none⟩ = some (.int .u8 (c 0)) := h0 0 (by omega)
  have f1 : w.cell? ⟨b0, o0 + 1, none⟩ = some (.int .u8 (c 1)) := h0 1 (by omega)
  have f2 : w.cell? ⟨b0, o0 + 2, none⟩ = some (.int .u8 (c 2)) := h0 2 (by omega)
  have f3 : w.cell? ⟨b0, o0 + 3, none⟩ = some (.int .u8 (c 3)) := h0 3 (by omega)
  have f4 : w.cell? ⟨b0, o0 + 4, none⟩ = some (.int .u8 (c 4)) := h0 4 (by omega)
  have f5 : w.cell? ⟨b0, o0 + 5, none⟩ = some (.int .u8 (c 5)) := h0 5 (by omega)
  have f6 : w.cell? ⟨b0, o0 + 6, none⟩ = some (.int .u8 (c 6)) := h0 6 (by omega)
  have f7 : w.cell? ⟨b0, o0 + 7, none⟩ = some (.int .u8 (c 7)) := h0 7 (by omega)
  have f8 : w.cell? ⟨b0, o0 + 8, none⟩ = some (.int .u8 (c 8)) := h0 8 (by omega)
  have f9 : w.cell? ⟨b0, o0 + 9, none⟩ = some (.int .u8 (c 9)) := h0 9 (by omega)
  have f10 : w.cell? ⟨b0, o0 + 10, none⟩ = some (.int .u8 (c 10)) := h0 10 (by omega)
  clear h0
  have l1 : b1 < w.heap.size := lt_of_cell (h1 0 (by omega))
  have g0 : w.cell? ⟨b1, o1, none⟩ = some (.int .u8 (d 0)) := h1 0 (by omega)
  have g1 : w.cell? ⟨b1, o1 + 1, none⟩ = some (.int .u8 (d 1)) := h1 1 (by omega)
  have g2 : w.cell? ⟨b1, o1 + 2, none⟩ = some (.int .u8 (d 2)) := h1 2 (by omega)
  have g3 : w.cell? ⟨b1, o1 + 3, none⟩ = some (.int .u8 (d 3)) := h1 3 (by omega)
  have g4 : w.cell? ⟨b1, o1 + 4, none⟩ = some (.int .u8 (d 4)) := h1 4 (by omega)
  have g5 : w.cell? ⟨b1, o1 + 5, none⟩ = some (.int .u8 (d 5)) := h1 5 (by omega)
  have g6 : w.cell? ⟨b1, o1 + 6, none⟩ = some (.int .u8 (d 6)) := h1 6 (by omega)
  have g7 : w.cell? ⟨b1, o1 + 7, none⟩ = some (.int .u8 (d 7)) := h1 7 (by omega)
  have g8 : w.cell? ⟨b1, o1 + 8, none⟩ = some (.int .u8 (d 8)) := h1 8 (by omega)
  have g9 : w.cell? ⟨b1, o1 + 9, none⟩ = some (.int .u8 (d 9)) := h1 9 (by omega)
  have g10 : w.cell? ⟨b1, o1 + 10, none⟩ = some (.int .u8 (d 10)) := h1 10 (by omega)
  clear h1
  go_enter Try.func3, Try.ntmps3
  go_wp2_with fail
  go_fit (write_any _ a _ HA.out HT.out.1)
  rintro e x1 ⟨rfl, hP, hB, hO⟩
  have P0 : Hid (Part x1 w.heap.size a 0) := hP
  have P1 : Hid (Part x1 (w.heap.size + 1) b 11) := HT.out.2.1.other (hO _ (by omega))
  have B1 : Hid (Below w.heap.size w x1) := HT.out.2.2.trans hB
  clear hP hB hO HT
  clear f0 f1 f2 f3 f4 f5 f6 f7 f8 f9 f10
  clear g0 g1 g2 g3 g4 g5 g6 g7 g8 g9 g10
  go_wp2_with fail
  go_fit (write_any _ b _ HB.out P1.out)
  rintro e x2 ⟨rfl, hP, hB, hO⟩
  have Q0 : Hid (Part x2 w.heap.size a 0) := P0.out.other (hO _ (by omega))
  have Q1 : Hid (Part x2 (w.heap.size + 1) b 0) := hP
  have B2 : Hid (Below w.heap.size w x2) := B1.out.trans (hB.mono (by omega))
  clear hP hB hO P0 P1 B1
  go_wp2_with fail
  go_fit (decode_any _ a HA.out _ Q0.out.text)
  rintro e x3 ⟨rfl, rfl⟩
  go_wp2_with fail
  go_fit (decode_any _ b HB.out _ Q1.out.text)
  rintro e x3 ⟨rfl, rfl⟩
  have K := compare_any w.heap.size (w.heap.size + 1) a b x2 HA.out HB.out Q0.out.text Q1.out.text
  clear Q0 Q1
  by_cases h1 : a < b
  · have e1 : cmp a b = -1 := by unfold cmp; rw [if_pos h1]
    rw [e1] at K
    clear e1
    go_wp2_with fail
    go_fit K
    rintro e x4 ⟨rfl, q, rfl⟩
    clear K
    go_wp2
    go_ret
    exact ⟨rfl, below_drewN B2.out q⟩
  by_cases h2 : b < a
  · have e1 : cmp a b = 1 := by unfold cmp; rw [if_neg h1, if_pos h2]
    rw [e1] at K
    clear e1
    go_wp2_with fail
    go_fit K
    rintro e x4 ⟨rfl, q, rfl⟩
    clear K
    go_wp2
    go_ret
    exact ⟨rfl, below_drewN B2.out q⟩
  · have e1 : cmp a b = 0 := by unfold cmp; rw [if_neg h1, if_neg h2]
    rw [e1] at K
    clear e1
    go_wp2_with fail
    go_fit K
    rintro e x4 ⟨rfl, q, rfl⟩
    clear K
    go_wp2
    go_ret
    exact ⟨rfl, below_drewN B2.out q⟩

end Go.Proofs.Qxb6617629a
