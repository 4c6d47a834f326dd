import Derived.Test.Qxb6616228aB
import Derived.Test.Qxb6616228aLaws
import Derived.WalkSpells
import Derived.Deep.RegionWith
import Derived.WalkSmall
namespace Go.Proofs.Qxb6616228a
open Go.RowKit

theorem lt_of_cell {w : World} {a : Addr} {v : Value} (h : w.cell? a = some v) : a.block < w.heap.size := by
  by_cases hl : a.block < w.heap.size
  · exact hl
  · exfalso
    have e : w.heap[a.block]? = none := by simp; omega
    simp [World.cell?, e] at h

theorem info21 : (Try.prog.info? 21).map (fun i => (i.zero, i.size, i.bytes)) = some (some (.int .i32 0), 1, 4) := by kernel_rfl
theorem info42 : (Try.prog.info? 42).map (fun i => (i.zero, i.size, i.bytes)) = some (some (.int .u16 0), 1, 2) := by kernel_rfl
theorem size21 : (Try.prog.info? 21).map (·.size) = some 1 := by kernel_rfl
theorem size42 : (Try.prog.info? 42).map (·.size) = some 1 := by kernel_rfl

theorem cell_two {w a b : World} {p : Addr} {v : Value} (h1 : Below w.heap.size w a) (h2 : Below w.heap.size a b) (h : w.cell? p = some v) : b.cell? p = some v := cell_later (h1.trans h2) h

set_option maxHeartbeats 4000000 in
theorem cut_deep (x0 x1 : Addr) (n cap0 cap1 : Nat) (f c : Nat → Int) (a2 r : Int) (w : World) (hn : 0 < n) (hN : n ≤ 65536)
    (h0 : ∀ i, i < n → w.cell? (x0.add i) = some (.int .i32 (f i))) (h1 : ∀ i, i < n → w.cell? (x1.add i) = some (.int .u16 (c i))) (hb : ∀ i, 0 ≤ c i ∧ c i ≤ 65535) :
    Calls Try.prog 4 #[.slice (some x0) n cap0, .slice (some x1) n cap1, .int .i64 a2, .int .i32 r] w fun e w' => e = .returned (.bool true) ∧ Below w.heap.size w w' := by
  have l1 : x1.block < w.heap.size := lt_of_cell (h1 0 hn)
  have hnI : (0 : Int) < n := by omega
  have q0 := fun w => run_neq_slice_nil_any (P := Try.prog) w 35 21 (some x0) n cap0 0 0 Try.underlying35
  have q1 := fun w => run_neq_slice_nil_any (P := Try.prog) w 36 42 (some x1) n cap1 0 0 Try.underlying36
  have H0 : Hid (∀ i, i < n → w.cell? (x0.add i) = some (.int .i32 (f i))) := h0
  have H1 : Hid (∀ i, i < n → w.cell? (x1.add i) = some (.int .u16 (c i))) := h1
  have HB : Hid (∀ i, 0 ≤ c i ∧ c i ≤ 65535) := hb
  clear h0 h1 hb
  go_enter Try.func4, Try.ntmps4
  go_wp2_with fail
  refine (bytes13_any _ _ _ _ _ _ _ _ _ hN hN).mono ?_
  rintro e w' ⟨rfl, rfl⟩
  go_wp2_with (first
    | (at_make; refine wpList_make_row _ rfl _ _ 35 rfl 21 (.int .i32 0) 4 Try.underlying35 info21 .i64 .i64 n rfl rfl (by omega) (by omega) ?_; intro w1 hB1 hR1 hs1; have HS1 : Hid (w1.heap.size = w.heap.size + 1) := hs1; clear hs1)
    | ((with_reducible refine wpList_copy_lit (dT := 35) (sT := 35) 21 Try.underlying35 size21 w.heap.size n cap0 x0 21 hR1 (fun i => .int .i32 (f i)) (fun i hi => cell_later hB1 (H0.out i hi)) (fun _ => rfl) ?hd1 ?hs1 ?_); (case hd1 => rfl); (case hs1 => rfl); intro w2 hB2 hC2 hs2; have HS2 : Hid (w2.heap.size = w1.heap.size) := hs2; have HC2 : Hid (∀ j, j < n → w2.cell? ⟨w.heap.size, j, none⟩ = some (.int .i32 (f j))) := hC2; clear hs2 hC2)
    | (at_make; refine wpList_make_row _ rfl _ _ 36 rfl 42 (.int .u16 0) 2 Try.underlying36 info42 .i64 .i64 n rfl rfl (by omega) (by omega) ?_; intro w3 hB3 hR3 hs3; have HS3 : Hid (w3.heap.size = w2.heap.size + 1) := hs3; clear hs3)
    | ((with_reducible refine wpList_copy_lit (dT := 36) (sT := 36) 42 Try.underlying36 size42 w2.heap.size n cap1 x1 42 hR3 (fun i => .int .u16 (c i)) (fun i hi => cell_later hB3 (cell_two hB1 hB2 (H1.out i hi))) (fun _ => rfl) ?hd2 ?hs2 ?_); (case hd2 => rfl); (case hs2 => rfl); intro w4 hB4 hC4 hs4; have HS4 : Hid (w4.heap.size = w3.heap.size) := hs4; have HC4 : Hid (∀ j, j < n → w4.cell? ⟨w2.heap.size, j, none⟩ = some (.int .u16 (c j))) := hC4; clear hs4 hC4))
  have z1 : w2.heap.size = w.heap.size + 1 := HS2.out.trans HS1.out
  have z4 : w4.heap.size = w2.heap.size + 1 := HS4.out.trans HS3.out
  have hB24 : Below w2.heap.size w2 w4 := hB3.trans hB4
  have hBw : Below w.heap.size w w4 := (hB1.trans hB2).trans (hB24.mono (by omega))
  have hF4 : ∀ j, j < n → w4.cell? ⟨w.heap.size, j, none⟩ = some (.int .i32 (f j)) := fun j hj => (hB24.cell (p := ⟨w.heap.size, j, none⟩) (by show w.heap.size < _; omega)).trans (HC2.out j hj)
  have hC4 := HC4.out
  clear hB1 hB2 hB3 hB4 hB24 hR1 hR3 HC2 HC4 HS1 HS2 HS3 HS4 H0 H1 l1 q0 q1
  refine (rising_any w.heap.size n n f w4 hN hF4).mono ?_
  rintro e w5 ⟨b, rfl, hr, k, rfl⟩
  have hBu : Below w.heap.size w (w4.drewN k) := below_drewN hBw k
  have hFu : ∀ j, j < n → (w4.drewN k).cell? ⟨w.heap.size, j, none⟩ = some (.int .i32 (f j)) := fun j hj => by simpa using hF4 j hj
  have hCu : ∀ j, j < n → (w4.drewN k).cell? ⟨w2.heap.size, j, none⟩ = some (.int .u16 (c j)) := fun j hj => by simpa using hC4 j hj
  have z0 : w.heap.size < (w4.drewN k).heap.size := by simp; omega
  have z2 : w2.heap.size < (w4.drewN k).heap.size := by simp; omega
  clear hF4 hC4 hBw z1 z4
  generalize w4.drewN k = u at *
  generalize w2.heap.size = g1 at *
  generalize hg0 : w.heap.size = g0 at *
  cases b with
  | false =>
    go_wp2
    go_ret
    exact ⟨rfl, by rw [hg0]; exact hBu⟩
  | true =>
    have hR := hr rfl
    have HR : Hid (Rising f n) := hR
    clear hr hR
    by_cases hj0 : a2 < 0
    · go_wp2
      go_ret
      exact ⟨rfl, by rw [hg0]; exact hBu⟩
    by_cases hjn : (n : Int) ≤ a2
    · have hj0' : 0 ≤ a2 := by omega
      go_wp2
      go_ret
      exact ⟨rfl, by rw [hg0]; exact hBu⟩
    obtain ⟨j, rfl⟩ : ∃ j : Nat, a2 = (j : Int) := ⟨a2.toNat, by omega⟩
    have hj : j < n := by omega
    clear hj0 hjn
    have hjI : (j : Int) < n := by omega
    have c0 : u.cell? ⟨g0, 0, none⟩ = some (.int .i32 (f 0)) := hFu 0 hn
    have cj : u.cell? ⟨g0, j, none⟩ = some (.int .i32 (f j)) := hFu j hj
    have kj : u.cell? ⟨g1, j, none⟩ = some (.int .u16 (c j)) := hCu j hj
    have HF : Hid (∀ j, j < n → u.cell? ⟨g0, j, none⟩ = some (.int .i32 (f j))) := hFu
    have HC : Hid (∀ j, j < n → u.cell? ⟨g1, j, none⟩ = some (.int .u16 (c j))) := hCu
    clear hFu hCu
    by_cases hr0 : r < f 0
    · go_wp2
      go_ret
      exact ⟨rfl, by rw [hg0]; exact hBu⟩
    have hr0' : f 0 ≤ r := by omega
    clear hr0
    go_wp2_with fail
    refine (newC_any _ _ _ _ _ _ _).mono ?_
    rintro e v ⟨rfl, hBv, zv, d1, d2⟩
    have HFv : Hid (∀ j, j < n → v.cell? ⟨g0, j, none⟩ = some (.int .i32 (f j))) := fun j hj => cell_later hBv (HF.out j hj)
    have HCv : Hid (∀ j, j < n → v.cell? ⟨g1, j, none⟩ = some (.int .u16 (c j))) := fun j hj => cell_later hBv (HC.out j hj)
    have cj' : v.cell? ⟨g0, j, none⟩ = some (.int .i32 (f j)) := HFv.out j hj
    have kj' : v.cell? ⟨g1, j, none⟩ = some (.int .u16 (c j)) := HCv.out j hj
    have hBv' : Below g0 w v := hBu.trans (hBv.mono (by omega))
    have zd : u.heap.size < v.heap.size := zv
    generalize u.heap.size = d at *
    clear c0 cj kj HF HC hBu hBv zv u
    go_wp2_with fail
    refine (class16_any d g0 0 g1 0 n n n f c r v hn hN d1 d2 (fun j hj => by simpa using HFv.out j hj) (fun j hj => by simpa using HCv.out j hj) HB.out hr0').mono ?_
    rintro e v1 ⟨l1, a1, a2, a3, rfl, k1, rfl⟩
    have L1 : Hid (At f n r l1) := ⟨a1, a2, a3⟩
    clear a1 a2 a3
    have HFx : Hid (∀ j, j < n → (v.drewN k1).cell? ⟨g0, j, none⟩ = some (.int .i32 (f j))) := fun j hj => by simpa using HFv.out j hj
    have HCx : Hid (∀ j, j < n → (v.drewN k1).cell? ⟨g1, j, none⟩ = some (.int .u16 (c j))) := fun j hj => by simpa using HCv.out j hj
    have cjx : (v.drewN k1).cell? ⟨g0, j, none⟩ = some (.int .i32 (f j)) := HFx.out j hj
    have dx1 : (v.drewN k1).cell? ⟨d, 132, none⟩ = some (.slice (some ⟨g0, 0, none⟩) n n) := by simpa using d1
    have dx2 : (v.drewN k1).cell? ⟨d, 133, none⟩ = some (.slice (some ⟨g1, 0, none⟩) n n) := by simpa using d2
    have hBx : Below g0 w (v.drewN k1) := below_drewN hBv' k1
    have zx : d < (v.drewN k1).heap.size := by simpa using zd
    clear HFv HCv cj' kj' hBv' zd d1 d2
    generalize v.drewN k1 = x at *
    have KA : Hid (∀ y, Below x.heap.size x y → Calls Try.prog 16 #[.pointer (some ⟨d, 0, none⟩), .int .i32 (f j)] y fun e w' => e = .returned (.int .i64 (c j)) ∧ ∃ k, w' = y.drewN k) := fun y hy => by
      refine (class16_any d g0 0 g1 0 n n n f c (f j) y hn hN (cell_later hy dx1) (cell_later hy dx2) (fun j hj => by simpa using cell_later hy (HFx.out j hj)) (fun j hj => by simpa using cell_later hy (HCx.out j hj)) HB.out (HR.out.le' 0 j (by omega) hj)).mono ?_
      rintro e w' ⟨l, b1, b2, b3, rfl, k, rfl⟩
      rw [At.unique HR.out ⟨b1, b2, b3⟩ (HR.out.place hj)]
      exact ⟨rfl, k, rfl⟩
    clear dx1 dx2
    by_cases hrj : r < f j
    · have hj0 : 0 < j := by
        by_cases e : j = 0
        · rw [e] at hrj; omega
        · omega
      have K16 : Hid (∀ y, Below x.heap.size x y → y.cell? ⟨x.heap.size, 132, none⟩ = some (.slice (some ⟨g0, 0, none⟩) j n) → y.cell? ⟨x.heap.size, 133, none⟩ = some (.slice (some ⟨g1, 0, none⟩) j n) →
          Calls Try.prog 16 #[.pointer (some ⟨x.heap.size, 0, none⟩), .int .i32 r] y fun e w' => e = .returned (.int .i64 (c l1)) ∧ ∃ k, w' = y.drewN k) := fun y hy d3 d4 => by
        refine (class16_any x.heap.size g0 0 g1 0 j n n f c r y hj0 (by omega) d3 d4 (fun i hi => by simpa using cell_later hy (HFx.out i (by omega))) (fun i hi => by simpa using cell_later hy (HCx.out i (by omega))) HB.out hr0').mono ?_
        rintro e w' ⟨l, b1, b2, b3, rfl, k, rfl⟩
        rw [At.unique HR.out (At.low hj hrj ⟨b1, b2, b3⟩) L1.out]
        exact ⟨rfl, k, rfl⟩
      go_wp2_with fail
      go_region_with (first | (go_at_call 15; go_must (refine (newC_any _ _ _ _ _ _ _).mono ?_); rintro e y ⟨rfl, hBy, zy, d3, d4⟩) | (go_at_call 16; go_must (refine (K16.out y (((Below.refl _ x).drew).trans hBy) d3 d4).mono ?_); rintro e y1 ⟨rfl, k2, rfl⟩))
      all_goals
        have hxy : Below x.heap.size x (y.drewN k2) := below_drewN (((Below.refl _ x).drew).trans hBy) k2
        have cjy : (y.drewN k2).cell? ⟨g0, j, none⟩ = some (.int .i32 (f j)) := cell_later hxy cjx
        have kjy : (y.drewN k2).cell? ⟨g1, j, none⟩ = some (.int .u16 (c j)) := cell_later hxy (HCx.out j hj)
        have hBy' : Below g0 w (y.drewN k2) := hBx.trans (hxy.mono (by omega))
        have KB := KA.out _ hxy
        clear hBy zy d3 d4 cjx K16 KA
        generalize y.drewN k2 = t at *
        go_wp2_with fail
        refine KB.mono ?_
        rintro e t1 ⟨rfl, k3, rfl⟩
        have kjt : (t.drewN k3).cell? ⟨g1, j, none⟩ = some (.int .u16 (c j)) := by simpa using kjy
        have hBt : Below g0 w (t.drewN k3) := below_drewN hBy' k3
        have hcb := HB.out j
        clear kjy cjy KB hBy'
        generalize t.drewN k3 = t2 at *
        go_wp2
        go_ret
        exact ⟨rfl, by rw [hg0]; exact hBt⟩
    · have hrj' : f j ≤ r := by omega
      clear hrj
      have K16 : Hid (∀ y, Below x.heap.size x y → y.cell? ⟨x.heap.size, 132, none⟩ = some (.slice (some ⟨g0, j, none⟩) (n - j) (n - j)) → y.cell? ⟨x.heap.size, 133, none⟩ = some (.slice (some ⟨g1, j, none⟩) (n - j) (n - j)) →
          Calls Try.prog 16 #[.pointer (some ⟨x.heap.size, 0, none⟩), .int .i32 r] y fun e w' => e = .returned (.int .i64 (c l1)) ∧ ∃ k, w' = y.drewN k) := fun y hy d3 d4 => by
        refine (class16_any x.heap.size g0 j g1 j (n - j) (n - j) (n - j) (fun i => f (j + i)) (fun i => c (j + i)) r y (by omega) (by omega) d3 d4 (fun i hi => cell_later hy (HFx.out (j + i) (by omega))) (fun i hi => cell_later hy (HCx.out (j + i) (by omega))) (fun i => HB.out (j + i)) hrj').mono ?_
        rintro e w' ⟨l, b1, b2, b3, rfl, k, rfl⟩
        have e1 : j + l = l1 := At.unique HR.out (At.high hj ⟨b1, b2, b3⟩) L1.out
        show Ending.returned (.int .i64 (c (j + l))) = _ ∧ _
        rw [e1]
        exact ⟨rfl, k, rfl⟩
      go_wp2_with fail
      go_region_with (first | (go_at_call 15; go_must (refine (newC_any _ _ _ _ _ _ _).mono ?_); rintro e y ⟨rfl, hBy, zy, d3, d4⟩) | (go_at_call 16; go_must (refine (K16.out y (((Below.refl _ x).drew).trans hBy) d3 d4).mono ?_); rintro e y1 ⟨rfl, k2, rfl⟩))
      all_goals
        have hxy : Below x.heap.size x (y.drewN k2) := below_drewN (((Below.refl _ x).drew).trans hBy) k2
        have cjy : (y.drewN k2).cell? ⟨g0, j, none⟩ = some (.int .i32 (f j)) := cell_later hxy cjx
        have kjy : (y.drewN k2).cell? ⟨g1, j, none⟩ = some (.int .u16 (c j)) := cell_later hxy (HCx.out j hj)
        have hBy' : Below g0 w (y.drewN k2) := hBx.trans (hxy.mono (by omega))
        have KB := KA.out _ hxy
        clear hBy zy d3 d4 cjx K16 KA
        generalize y.drewN k2 = t at *
        go_wp2_with fail
        refine KB.mono ?_
        rintro e t1 ⟨rfl, k3, rfl⟩
        have kjt : (t.drewN k3).cell? ⟨g1, j, none⟩ = some (.int .u16 (c j)) := by simpa using kjy
        have hBt : Below g0 w (t.drewN k3) := below_drewN hBy' k3
        have hcb := HB.out j
        clear kjy cjy KB hBy'
        generalize t.drewN k3 = t2 at *
        go_wp2
        go_ret
        exact ⟨rfl, by rw [hg0]; exact hBt⟩
end Go.Proofs.Qxb6616228a
