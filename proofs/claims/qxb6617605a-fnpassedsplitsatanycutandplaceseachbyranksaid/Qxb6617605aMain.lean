import Derived.Test.Qxb6617605aZZ
import Derived.Deep.RegionWith
import Derived.Deep.DeepMust
namespace Go.Proofs.Qxb6617605a
open Go.RowKit

/-- how many of the first k are kept, gone -/
def kr (fl : Int) (ys : List (Int × Int)) (k : Nat) : Nat := (kept fl (ys.take k)).length
def gr (fl : Int) (ys : List (Int × Int)) (k : Nat) : Nat := (gone fl (ys.take k)).length
def kn (fl : Int) (ys : List (Int × Int)) : Nat := (kept fl ys).length
def gn (fl : Int) (ys : List (Int × Int)) : Nat := (gone fl ys).length
theorem kr_all (fl : Int) (ys : List (Int × Int)) (n : Nat) (h : ys.length = n) : kr fl ys n = kn fl ys := by unfold kr kn; rw [List.take_of_length_le (by omega)]
theorem gr_all (fl : Int) (ys : List (Int × Int)) (n : Nat) (h : ys.length = n) : gr fl ys n = gn fl ys := by unfold gr gn; rw [List.take_of_length_le (by omega)]

theorem cell_two {w a b : World} {p : Addr} {v : Value} (h1 : Below w.heap.size w a) (h2 : Below w.heap.size a b) (h : w.cell? p = some v) : b.cell? p = some v := cell_later (h1.trans h2) h
theorem size27 : (Try.prog.info? 27).map (·.size) = some 1 := by kernel_rfl
theorem size2 : (Try.prog.info? 2).map (·.size) = some 1 := by kernel_rfl

/-- 'zz_any', its lengths behind names -/
theorem zz_at (a b : Option Addr) (n c d : Nat) (ys : List (Int × Int)) (fl : Int) (w : World) (hlen : ys.length = n) (hN : n ≤ 65536) (r1 : InRow w .u64 a n (gAt ys)) (r2 : InRow w .i64 b n (lAt ys)) :
    Calls Try.prog 5 #[.slice a n c, .slice b n d, .int .i64 fl] w fun e w' => ∃ a1 c1 a2 c2 a3 c3 a4 c4, e = .returned (.tuple #[.slice a1 (kn fl ys) c1, .slice a2 (kn fl ys) c2, .slice a3 (gn fl ys) c3, .slice a4 (gn fl ys) c4]) ∧
      Four w' fl ys a1 a2 a3 a4 ∧ Below w.heap.size w w' := zz_any a b n c d ys fl w hlen hN r1 r2

theorem kr_hit (fl : Int) (ys : List (Int × Int)) (k : Nat) (h : k < ys.length) (hp : fl < lAt ys k) : kr fl ys (k + 1) = kr fl ys k + 1 ∧ gr fl ys (k + 1) = gr fl ys k := by
  unfold kr gr; rw [kept_hit fl ys k h hp, gone_miss fl ys k h hp]; simp
theorem gr_hit (fl : Int) (ys : List (Int × Int)) (k : Nat) (h : k < ys.length) (hp : lAt ys k ≤ fl) : gr fl ys (k + 1) = gr fl ys k + 1 ∧ kr fl ys (k + 1) = kr fl ys k := by
  unfold kr gr; rw [gone_hit fl ys k h hp, kept_miss fl ys k h hp]; simp
theorem kr_zero (fl : Int) (ys : List (Int × Int)) : kr fl ys 0 = 0 ∧ gr fl ys 0 = 0 := ⟨rfl, rfl⟩
theorem kr_le (fl : Int) (ys : List (Int × Int)) (k : Nat) : kr fl ys k ≤ k ∧ gr fl ys k ≤ k := by
  have h : (ys.take k).length ≤ k := List.length_take_le _ _
  exact ⟨Nat.le_trans (kept_len _ _) h, Nat.le_trans (gone_len _ _) h⟩
theorem kn_add (fl : Int) (ys : List (Int × Int)) (n : Nat) (h : ys.length = n) : kn fl ys + gn fl ys = n := by rw [← h]; exact both_len fl ys
theorem kn_split (fl : Int) (ys : List (Int × Int)) (c : Nat) : kn fl ys = kn fl (ys.take c) + kn fl (ys.drop c) := by
  unfold kn
  have e : kept fl ys = kept fl (ys.take c) ++ kept fl (ys.drop c) := by rw [← kept_append, List.take_append_drop]
  rw [e, List.length_append]
theorem gn_split (fl : Int) (ys : List (Int × Int)) (c : Nat) : gn fl ys = gn fl (ys.take c) + gn fl (ys.drop c) := by
  unfold gn
  have e : gone fl ys = gone fl (ys.take c) ++ gone fl (ys.drop c) := by rw [← gone_append, List.take_append_drop]
  rw [e, List.length_append]
theorem Four.drewN {w : World} {fl : Int} {ys : List (Int × Int)} {a1 a2 a3 a4 : Option Addr} (h : Four w fl ys a1 a2 a3 a4) (q : Nat) : Four (w.drewN q) fl ys a1 a2 a3 a4 :=
  ⟨h.1.drewN q, h.2.1.drewN q, h.2.2.1.drewN q, h.2.2.2.drewN q⟩

theorem cat_kg {w : World} {fl : Int} {ys : List (Int × Int)} {cut : Nat} {a1 a2 a3 a4 b1 b2 b3 b4 d1 d2 d3 d4 : Option Addr} (c1 c2 c3 : Nat) (hN : ys.length ≤ 65536)
    (hA : Four w fl ys a1 a2 a3 a4) (hB : Four w fl (ys.take cut) b1 b2 b3 b4) (hD : Four w fl (ys.drop cut) d1 d2 d3 d4) :
    Calls Try.prog 6 #[.slice a1 (kn fl ys) c1, .slice b1 (kn fl (ys.take cut)) c2, .slice d1 (kn fl (ys.drop cut)) c3] w fun e w' => e = .returned (.bool true) ∧ ∃ k, w' = w.drewN k := by
  have e : kept fl ys = kept fl (ys.take cut) ++ kept fl (ys.drop cut) := by rw [← kept_append, List.take_append_drop]
  refine catU64_any _ _ _ _ _ _ c1 c2 c3 _ _ _ w (kn_split fl ys cut) (Nat.le_trans (kept_len fl ys) hN) hA.1 hB.1 hD.1 ?_ ?_
  · intro j hj
    rw [e]; exact gAt_append_left _ _ j hj
  · intro j _
    rw [e]; exact gAt_append_right _ _ j
theorem cat_kl {w : World} {fl : Int} {ys : List (Int × Int)} {cut : Nat} {a1 a2 a3 a4 b1 b2 b3 b4 d1 d2 d3 d4 : Option Addr} (c1 c2 c3 : Nat) (hN : ys.length ≤ 65536)
    (hA : Four w fl ys a1 a2 a3 a4) (hB : Four w fl (ys.take cut) b1 b2 b3 b4) (hD : Four w fl (ys.drop cut) d1 d2 d3 d4) :
    Calls Try.prog 7 #[.slice a2 (kn fl ys) c1, .slice b2 (kn fl (ys.take cut)) c2, .slice d2 (kn fl (ys.drop cut)) c3] w fun e w' => e = .returned (.bool true) ∧ ∃ k, w' = w.drewN k := by
  have e : kept fl ys = kept fl (ys.take cut) ++ kept fl (ys.drop cut) := by rw [← kept_append, List.take_append_drop]
  refine catI64_any _ _ _ _ _ _ c1 c2 c3 _ _ _ w (kn_split fl ys cut) (Nat.le_trans (kept_len fl ys) hN) hA.2.1 hB.2.1 hD.2.1 ?_ ?_
  · intro j hj
    rw [e]; exact lAt_append_left _ _ j hj
  · intro j _
    rw [e]; exact lAt_append_right _ _ j
theorem cat_gg {w : World} {fl : Int} {ys : List (Int × Int)} {cut : Nat} {a1 a2 a3 a4 b1 b2 b3 b4 d1 d2 d3 d4 : Option Addr} (c1 c2 c3 : Nat) (hN : ys.length ≤ 65536)
    (hA : Four w fl ys a1 a2 a3 a4) (hB : Four w fl (ys.take cut) b1 b2 b3 b4) (hD : Four w fl (ys.drop cut) d1 d2 d3 d4) :
    Calls Try.prog 6 #[.slice a3 (gn fl ys) c1, .slice b3 (gn fl (ys.take cut)) c2, .slice d3 (gn fl (ys.drop cut)) c3] w fun e w' => e = .returned (.bool true) ∧ ∃ k, w' = w.drewN k := by
  have e : gone fl ys = gone fl (ys.take cut) ++ gone fl (ys.drop cut) := by rw [← gone_append, List.take_append_drop]
  refine catU64_any _ _ _ _ _ _ c1 c2 c3 _ _ _ w (gn_split fl ys cut) (Nat.le_trans (gone_len fl ys) hN) hA.2.2.1 hB.2.2.1 hD.2.2.1 ?_ ?_
  · intro j hj
    rw [e]; exact gAt_append_left _ _ j hj
  · intro j _
    rw [e]; exact gAt_append_right _ _ j
theorem cat_gl {w : World} {fl : Int} {ys : List (Int × Int)} {cut : Nat} {a1 a2 a3 a4 b1 b2 b3 b4 d1 d2 d3 d4 : Option Addr} (c1 c2 c3 : Nat) (hN : ys.length ≤ 65536)
    (hA : Four w fl ys a1 a2 a3 a4) (hB : Four w fl (ys.take cut) b1 b2 b3 b4) (hD : Four w fl (ys.drop cut) d1 d2 d3 d4) :
    Calls Try.prog 7 #[.slice a4 (gn fl ys) c1, .slice b4 (gn fl (ys.take cut)) c2, .slice d4 (gn fl (ys.drop cut)) c3] w fun e w' => e = .returned (.bool true) ∧ ∃ k, w' = w.drewN k := by
  have e : gone fl ys = gone fl (ys.take cut) ++ gone fl (ys.drop cut) := by rw [← gone_append, List.take_append_drop]
  refine catI64_any _ _ _ _ _ _ c1 c2 c3 _ _ _ w (gn_split fl ys cut) (Nat.le_trans (gone_len fl ys) hN) hA.2.2.2 hB.2.2.2 hD.2.2.2 ?_ ?_
  · intro j hj
    rw [e]; exact lAt_append_left _ _ j hj
  · intro j _
    rw [e]; exact lAt_append_right _ _ j

set_option maxRecDepth 100000 in
set_option maxHeartbeats 8000000 in
theorem main_deep (x0 x1 : Addr) (n cap0 cap1 : Nat) (ys : List (Int × Int)) (fl : Int) (cut : Nat) (w : World) (hn : 0 < n) (hN : n ≤ 65536) (hlen : ys.length = n) (hcut : cut ≤ n)
    (h0 : ∀ i, i < n → w.cell? (x0.add i) = some (.int .u64 (gAt ys i))) (h1 : ∀ i, i < n → w.cell? (x1.add i) = some (.int .i64 (lAt ys i))) :
    Calls Try.prog 3 #[.slice (some x0) n cap0, .slice (some x1) n cap1, .int .i64 fl, .int .i64 cut] w fun e w' => e = .returned (.bool true) ∧ Below w.heap.size w w' := by
  have hnI : (0 : Int) < n := by omega
  have hcI : (cut : Int) ≤ n := by omega
  have q0 := fun w => run_neq_slice_nil_any (P := Try.prog) w 22 27 (some x0) n cap0 0 0 Try.underlying22
  have q1 := fun w => run_neq_slice_nil_any (P := Try.prog) w 23 2 (some x1) n cap1 0 0 Try.underlying23
  have H0 : Hid (∀ i, i < n → w.cell? (x0.add i) = some (.int .u64 (gAt ys i))) := h0
  have H1 : Hid (∀ i, i < n → w.cell? (x1.add i) = some (.int .i64 (lAt ys i))) := h1
  have HL : Hid (ys.length = n) := hlen
  clear h0 h1 hlen
  go_enter Try.func3, Try.ntmps3
  go_wp2_with fail
  refine (bytes_any _ _ _ _ _ _ _ _ _ hN hN).mono ?_
  rintro e w' ⟨rfl, rfl⟩
  go_wp2_with (first
    | (at_make; refine wpList_make_row _ rfl _ _ 22 rfl 27 (.int .u64 0) 1 8 Try.underlying22 info27 .i64 .i64 n rfl rfl (by omega) (by omega) ?_; intro w1 hB1 hR1 hs1; rw [Nat.mul_one] at hR1; have HS1 : Hid (w1.heap.size = w.heap.size + 1) := hs1; clear hs1)
    | ((with_reducible refine wpList_copy_lit (dT := 22) (sT := 22) 27 Try.underlying22 size27 w.heap.size n cap0 x0 27 hR1 (fun i => .int .u64 (gAt ys i)) (fun i hi => cell_later hB1 (H0.out i hi)) (fun _ => rfl) ?hd1 ?hs1 ?_); (case hd1 => rfl); (case hs1 => rfl); intro w2 hB2 hC2 hs2; have HS2 : Hid (w2.heap.size = w1.heap.size) := hs2; have HC2 : Hid (∀ j, j < n → w2.cell? ⟨w.heap.size, j, none⟩ = some (.int .u64 (gAt ys j))) := hC2; clear hs2 hC2)
    | (at_make; refine wpList_make_row _ rfl _ _ 23 rfl 2 (.int .i64 0) 1 8 Try.underlying23 info2 .i64 .i64 n rfl rfl (by omega) (by omega) ?_; intro w3 hB3 hR3 hs3; rw [Nat.mul_one] at hR3; have HS3 : Hid (w3.heap.size = w2.heap.size + 1) := hs3; clear hs3)
    | ((with_reducible refine wpList_copy_lit (dT := 23) (sT := 23) 2 Try.underlying23 size2 w2.heap.size n cap1 x1 2 hR3 (fun i => .int .i64 (lAt ys i)) (fun i hi => cell_later hB3 (cell_two hB1 hB2 (H1.out i hi))) (fun _ => rfl) ?hd2 ?hs2 ?_); (case hd2 => rfl); (case hs2 => rfl); intro w4 hB4 hC4 hs4; have HS4 : Hid (w4.heap.size = w3.heap.size) := hs4; have HC4 : Hid (∀ j, j < n → w4.cell? ⟨w2.heap.size, j, none⟩ = some (.int .i64 (lAt ys j))) := hC4; clear hs4 hC4))
  have z1 : w2.heap.size = w.heap.size + 1 := HS2.out.trans HS1.out
  have z4 : w4.heap.size = w2.heap.size + 1 := HS4.out.trans HS3.out
  have hB24 : Below w2.heap.size w2 w4 := hB3.trans hB4
  have hBw : Below w.heap.size w w4 := (hB1.trans hB2).trans (hB24.mono (by omega))
  have hF4 : ∀ j, j < n → w4.cell? ⟨w.heap.size, 0 + j, none⟩ = some (.int .u64 (gAt ys j)) := fun j hj => by
    rw [Nat.zero_add]
    exact (hB24.cell (p := ⟨w.heap.size, j, none⟩) (by show w.heap.size < _; omega)).trans (HC2.out j hj)
  have hC4 : ∀ j, j < n → w4.cell? ⟨w2.heap.size, 0 + j, none⟩ = some (.int .i64 (lAt ys j)) := fun j hj => by
    rw [Nat.zero_add]; exact HC4.out j hj
  have HF4 : Hid (∀ j, j < n → w4.cell? ⟨w.heap.size, j, none⟩ = some (.int .u64 (gAt ys j))) := fun j hj => by simpa using hF4 j hj
  have HC4' : Hid (∀ j, j < n → w4.cell? ⟨w2.heap.size, j, none⟩ = some (.int .i64 (lAt ys j))) := HC4.out
  have r1 : InRow w4 .u64 (some ⟨w.heap.size, 0, none⟩) n (gAt ys) := .inr ⟨_, _, rfl, hF4⟩
  have r2 : InRow w4 .i64 (some ⟨w2.heap.size, 0, none⟩) n (lAt ys) := .inr ⟨_, _, rfl, hC4⟩
  have zz0 : w.heap.size < w4.heap.size := by omega
  have zz1 : w2.heap.size < w4.heap.size := by omega
  have HBw : Hid (Below w.heap.size w w4) := hBw
  have Z := zz_at _ _ n n n ys fl w4 HL.out hN r1 r2
  clear hB1 hB2 hB3 hB4 hB24 hR1 hR3 HC2 HC4 HS1 HS2 HS3 HS4 H0 H1 q0 q1 hF4 hC4 r1 r2 hBw z1 z4
  generalize w2.heap.size = g1 at *
  generalize hg0 : w.heap.size = g0 at *
  go_wp2_with fail
  refine Z.mono ?_
  rintro e w5 ⟨a1, c1, a2, c2, a3, c3, a4, c4, rfl, hF, hB5⟩
  have HF5 : Hid (∀ j, j < n → w5.cell? ⟨g0, j, none⟩ = some (.int .u64 (gAt ys j))) := fun j hj => cell_later hB5 (HF4.out j hj)
  have HC5 : Hid (∀ j, j < n → w5.cell? ⟨g1, j, none⟩ = some (.int .i64 (lAt ys j))) := fun j hj => cell_later hB5 (HC4'.out j hj)
  have HB5 : Hid (Below g0 w w5) := HBw.out.trans (hB5.mono (by omega))
  have H4 : Hid (Four w5 fl ys a1 a2 a3 a4) := hF
  have y0 : g0 < w5.heap.size := Nat.lt_of_lt_of_le zz0 hB5.size
  have y1 : g1 < w5.heap.size := Nat.lt_of_lt_of_le zz1 hB5.size
  clear HF4 HC4' hB5 hF HBw zz0 zz1 Z
  have hadd := kn_add fl ys n HL.out
  have hk1 : kn fl ys ≤ 65536 := by omega
  have hg1 : gn fl ys ≤ 65536 := by omega
  have eK : ((kn fl ys : Int) + (gn fl ys : Int) != (n : Int)) = false := by simp; omega
  have HADD : Hid (kn fl ys + gn fl ys = n) := hadd
  clear hadd
  go_wp2_with fail
  go_loopw [15, 16, 17] (fun rk rg i wr => ∃ k : Nat, k ≤ n ∧ i = .int .i64 k ∧ rk = .int .i64 (kr fl ys k : Nat) ∧ rg = .int .i64 (gr fl ys k : Nat) ∧ ∃ q, wr = w5.drewN q) (fun _ _ i _ => n - (intOf i).toNat)
  case atStart => exact ⟨0, Nat.zero_le _, rfl, rfl, rfl, 0, rfl⟩
  case round =>
    obtain ⟨k, hk, rfl, rfl, rfl, q, rfl⟩ := hrel
    obtain ⟨hkr, hgr⟩ := kr_le fl ys k
    by_cases hlt : k < n
    · have hltI : (k : Int) < n := by omega
      have hyl : k < ys.length := by rw [HL.out]; exact hlt
      have p1 := HF5.out k hlt
      have p2 := HC5.out k hlt
      by_cases hp : fl < lAt ys k
      · obtain ⟨t1, t2, t3⟩ := kept_rank fl ys k hyl hp
        change kr fl ys k < kn fl ys at t1
        change gAt (kept fl ys) (kr fl ys k) = gAt ys k at t2
        change lAt (kept fl ys) (kr fl ys k) = lAt ys k at t3
        obtain ⟨b1, o1, rfl, s1⟩ := H4.out.1.pos (show 0 < (kept fl ys).length by change 0 < kn fl ys; omega)
        obtain ⟨b2, o2, rfl, s2⟩ := H4.out.2.1.pos (show 0 < (kept fl ys).length by change 0 < kn fl ys; omega)
        have p3 := s1 (kr fl ys k) t1
        have p4 := s2 (kr fl ys k) t1
        rw [t2] at p3
        rw [t3] at p4
        obtain ⟨f1, f2⟩ := kr_hit fl ys k hyl hp
        have F1 : Hid (kr fl ys (k + 1) = kr fl ys k + 1) := f1
        have F2 : Hid (gr fl ys (k + 1) = gr fl ys k) := f2
        have t1I : (kr fl ys k : Int) < kn fl ys := by omega
        have dd : decide ((kn fl ys : Int) ≤ (kr fl ys k : Int)) = false := by simp; omega
        clear s1 s2 t2 t3 f1 f2
        go_wp2
        go_quiet (fail)
        go_wp2
        go_roundw
        case rel => exact ⟨k + 1, by omega, by go_num, by rw [F1.out]; go_num, by rw [F2.out], q + nq, by simp⟩
        case measure => simp [intOf]; omega
      · have hp' : lAt ys k ≤ fl := by omega
        clear hp
        obtain ⟨t1, t2, t3⟩ := gone_rank fl ys k hyl hp'
        change gr fl ys k < gn fl ys at t1
        change gAt (gone fl ys) (gr fl ys k) = gAt ys k at t2
        change lAt (gone fl ys) (gr fl ys k) = lAt ys k at t3
        obtain ⟨b1, o1, rfl, s1⟩ := H4.out.2.2.1.pos (show 0 < (gone fl ys).length by change 0 < gn fl ys; omega)
        obtain ⟨b2, o2, rfl, s2⟩ := H4.out.2.2.2.pos (show 0 < (gone fl ys).length by change 0 < gn fl ys; omega)
        have p3 := s1 (gr fl ys k) t1
        have p4 := s2 (gr fl ys k) t1
        rw [t2] at p3
        rw [t3] at p4
        obtain ⟨f1, f2⟩ := gr_hit fl ys k hyl hp'
        have F1 : Hid (gr fl ys (k + 1) = gr fl ys k + 1) := f1
        have F2 : Hid (kr fl ys (k + 1) = kr fl ys k) := f2
        have t1I : (gr fl ys k : Int) < gn fl ys := by omega
        have dd : decide ((gn fl ys : Int) ≤ (gr fl ys k : Int)) = false := by simp; omega
        clear s1 s2 t2 t3 f1 f2
        go_wp2
        go_quiet (fail)
        go_wp2
        go_roundw
        case rel => exact ⟨k + 1, by omega, by go_num, by rw [F2.out], by rw [F1.out]; go_num, q + nq, by simp⟩
        case measure => simp [intOf]; omega
    · obtain rfl : k = n := by omega
      have m1 : ((kr fl ys k : Int) != (kn fl ys : Int)) = false := by rw [kr_all fl ys k HL.out]; simp
      have m2 : ((gr fl ys k : Int) != (gn fl ys : Int)) = false := by rw [gr_all fl ys k HL.out]; simp
      have HFx : Hid (∀ j, j < k → (w5.drewN q).cell? ⟨g0, j, none⟩ = some (.int .u64 (gAt ys j))) := fun j hj => by simpa using HF5.out j hj
      have HCx : Hid (∀ j, j < k → (w5.drewN q).cell? ⟨g1, j, none⟩ = some (.int .i64 (lAt ys j))) := fun j hj => by simpa using HC5.out j hj
      have HBx : Hid (Below g0 w (w5.drewN q)) := below_drewN HB5.out q
      have HAx : Hid (Four (w5.drewN q) fl ys a1 a2 a3 a4) := H4.out.drewN q
      have yx0 : g0 < (w5.drewN q).heap.size := by simpa using y0
      have hNy : Hid (ys.length ≤ 65536) := (by rw [HL.out]; exact hN : ys.length ≤ 65536)
      clear HF5 HC5 HB5 H4 y0 y1 hkr hgr hlt hk HADD
      generalize w5.drewN q = x at *
      have KZ1 : Hid (∀ y, Below x.heap.size x y → Calls Try.prog 5 #[.slice (some ⟨g0, 0, none⟩) cut k, .slice (some ⟨g1, 0, none⟩) cut k, .int .i64 fl] y fun e w' => ∃ b1 e1 b2 e2 b3 e3 b4 e4, e = .returned (.tuple #[.slice b1 (kn fl (ys.take cut)) e1, .slice b2 (kn fl (ys.take cut)) e2, .slice b3 (gn fl (ys.take cut)) e3, .slice b4 (gn fl (ys.take cut)) e4]) ∧ Four w' fl (ys.take cut) b1 b2 b3 b4 ∧ Below y.heap.size y w') := fun y hy =>
        zz_at _ _ cut k k (ys.take cut) fl y (by have := HL.out; simp; omega) (by omega)
          (.inr ⟨g0, 0, rfl, fun j hj => by rw [Nat.zero_add, gAt_take _ _ _ hj]; exact cell_later hy (HFx.out j (by omega))⟩)
          (.inr ⟨g1, 0, rfl, fun j hj => by rw [Nat.zero_add, lAt_take _ _ _ hj]; exact cell_later hy (HCx.out j (by omega))⟩)
      go_wp2
      go_region_with (go_at_call 5; go_must (refine (KZ1.out x.drew (Below.refl _ x).drew).mono ?_); rintro e y ⟨b1, e1, b2, e2, b3, e3, b4, e4, rfl, hT, hBy⟩)
      have hxy : Below x.heap.size x y := ((Below.refl _ x).drew).trans hBy
      have HAy : Hid (Four y fl ys a1 a2 a3 a4) := HAx.out.later hxy
      have HTy : Hid (Four y fl (ys.take cut) b1 b2 b3 b4) := hT
      have HBy : Hid (Below g0 w y) := HBx.out.trans (hxy.mono (by omega))
      have HFy : Hid (∀ j, j < k → y.cell? ⟨g0, j, none⟩ = some (.int .u64 (gAt ys j))) := fun j hj => cell_later hxy (HFx.out j hj)
      have HCy : Hid (∀ j, j < k → y.cell? ⟨g1, j, none⟩ = some (.int .i64 (lAt ys j))) := fun j hj => cell_later hxy (HCx.out j hj)
      have yy0 : g0 < y.heap.size := Nat.lt_of_lt_of_le yx0 hxy.size
      clear hxy hBy hT KZ1 HAx HBx HFx HCx yx0
      by_cases hc : cut < k
      · have hcI : (cut : Int) < k := by omega
        have hkc : ¬ k = cut := by omega
        have KZ2 : Hid (∀ v, Below y.heap.size y v → Calls Try.prog 5 #[.slice (some ⟨g0, cut, none⟩) (k - cut) (k - cut), .slice (some ⟨g1, cut, none⟩) (k - cut) (k - cut), .int .i64 fl] v fun e w' => ∃ b1 e1 b2 e2 b3 e3 b4 e4, e = .returned (.tuple #[.slice b1 (kn fl (ys.drop cut)) e1, .slice b2 (kn fl (ys.drop cut)) e2, .slice b3 (gn fl (ys.drop cut)) e3, .slice b4 (gn fl (ys.drop cut)) e4]) ∧ Four w' fl (ys.drop cut) b1 b2 b3 b4 ∧ Below v.heap.size v w') := fun v hv =>
          zz_at _ _ (k - cut) (k - cut) (k - cut) (ys.drop cut) fl v (by have := HL.out; simp; omega) (by omega)
            (.inr ⟨g0, cut, rfl, fun j hj => by rw [gAt_drop]; exact cell_later hv (HFy.out (cut + j) (by omega))⟩)
            (.inr ⟨g1, cut, rfl, fun j hj => by rw [lAt_drop]; exact cell_later hv (HCy.out (cut + j) (by omega))⟩)
        go_wp2
        go_region_with (go_at_call 5; go_must (go_fit (KZ2.out y.drew (Below.refl _ y).drew)); rintro e z ⟨d1, h1, d2, h2, d3, h3, d4, h4, rfl, hD, hBz⟩)
        have hyz : Below y.heap.size y z := ((Below.refl _ y).drew).trans hBz
        have HA9 : Hid (Four z fl ys a1 a2 a3 a4) := HAy.out.later hyz
        have HT9 : Hid (Four z fl (ys.take cut) b1 b2 b3 b4) := HTy.out.later hyz
        have HD9 : Hid (Four z fl (ys.drop cut) d1 d2 d3 d4) := hD
        have HBz : Hid (Below g0 w z) := HBy.out.trans (hyz.mono (by omega))
        clear hyz hBz hD HAy HTy HBy KZ2 HFy HCy
        have C1 : Hid (∀ v, Below z.heap.size z v → Calls Try.prog 6 #[.slice a1 (kn fl ys) c1, .slice b1 (kn fl (ys.take cut)) e1, .slice d1 (kn fl (ys.drop cut)) h1] v fun e w' => e = .returned (.bool true) ∧ ∃ k, w' = v.drewN k) := fun v hv => cat_kg c1 e1 h1 hNy.out (HA9.out.later hv) (HT9.out.later hv) (HD9.out.later hv)
        have C2 : Hid (∀ v, Below z.heap.size z v → Calls Try.prog 7 #[.slice a2 (kn fl ys) c2, .slice b2 (kn fl (ys.take cut)) e2, .slice d2 (kn fl (ys.drop cut)) h2] v fun e w' => e = .returned (.bool true) ∧ ∃ k, w' = v.drewN k) := fun v hv => cat_kl c2 e2 h2 hNy.out (HA9.out.later hv) (HT9.out.later hv) (HD9.out.later hv)
        have C3 : Hid (∀ v, Below z.heap.size z v → Calls Try.prog 6 #[.slice a3 (gn fl ys) c3, .slice b3 (gn fl (ys.take cut)) e3, .slice d3 (gn fl (ys.drop cut)) h3] v fun e w' => e = .returned (.bool true) ∧ ∃ k, w' = v.drewN k) := fun v hv => cat_gg c3 e3 h3 hNy.out (HA9.out.later hv) (HT9.out.later hv) (HD9.out.later hv)
        have C4 : Hid (∀ v, Below z.heap.size z v → Calls Try.prog 7 #[.slice a4 (gn fl ys) c4, .slice b4 (gn fl (ys.take cut)) e4, .slice d4 (gn fl (ys.drop cut)) h4] v fun e w' => e = .returned (.bool true) ∧ ∃ k, w' = v.drewN k) := fun v hv => cat_gl c4 e4 h4 hNy.out (HA9.out.later hv) (HT9.out.later hv) (HD9.out.later hv)
        go_wp2_with fail
        go_fit (C1.out z (Below.refl _ _))
        rintro e z1 ⟨rfl, q1, rfl⟩
        go_wp2_with fail
        go_fit (C2.out _ (below_drewN (Below.refl _ _) _))
        rintro e z2 ⟨rfl, q2, rfl⟩
        rw [World.drewN_drewN]
        go_wp2_with fail
        go_fit (C3.out _ (below_drewN (Below.refl _ _) _))
        rintro e z3 ⟨rfl, q3, rfl⟩
        rw [World.drewN_drewN]
        go_wp2_with fail
        go_fit (C4.out _ (below_drewN (Below.refl _ _) _))
        rintro e z4 ⟨rfl, q4, rfl⟩
        rw [World.drewN_drewN]
        go_wp2
        go_ret
        exact ⟨rfl, by first | exact below_drewN HBz.out _ | (rw [hg0]; exact below_drewN HBz.out _)⟩
      · obtain rfl : k = cut := by omega
        have KZ2 : Hid (∀ v a b c d, Calls Try.prog 5 #[.slice a 0 c, .slice b 0 d, .int .i64 fl] v fun e w' => ∃ b1 e1 b2 e2 b3 e3 b4 e4, e = .returned (.tuple #[.slice b1 (kn fl (ys.drop k)) e1, .slice b2 (kn fl (ys.drop k)) e2, .slice b3 (gn fl (ys.drop k)) e3, .slice b4 (gn fl (ys.drop k)) e4]) ∧ Four w' fl (ys.drop k) b1 b2 b3 b4 ∧ Below v.heap.size v w') := fun v a b c d =>
          zz_at a b 0 c d (ys.drop k) fl v (by have := HL.out; simp; omega) (by omega) (.inl rfl) (.inl rfl)
        go_wp2
        go_region_with (go_at_call 5; go_must (go_fit (KZ2.out y.drew _ _ _ _)); rintro e z ⟨d1, h1, d2, h2, d3, h3, d4, h4, rfl, hD, hBz⟩)
        have hyz : Below y.heap.size y z := ((Below.refl _ y).drew).trans hBz
        have HA9 : Hid (Four z fl ys a1 a2 a3 a4) := HAy.out.later hyz
        have HT9 : Hid (Four z fl (ys.take k) b1 b2 b3 b4) := HTy.out.later hyz
        have HD9 : Hid (Four z fl (ys.drop k) d1 d2 d3 d4) := hD
        have HBz : Hid (Below g0 w z) := HBy.out.trans (hyz.mono (by omega))
        clear hyz hBz hD HAy HTy HBy KZ2 HFy HCy
        have C1 : Hid (∀ v, Below z.heap.size z v → Calls Try.prog 6 #[.slice a1 (kn fl ys) c1, .slice b1 (kn fl (ys.take k)) e1, .slice d1 (kn fl (ys.drop k)) h1] v fun e w' => e = .returned (.bool true) ∧ ∃ k, w' = v.drewN k) := fun v hv => cat_kg c1 e1 h1 hNy.out (HA9.out.later hv) (HT9.out.later hv) (HD9.out.later hv)
        have C2 : Hid (∀ v, Below z.heap.size z v → Calls Try.prog 7 #[.slice a2 (kn fl ys) c2, .slice b2 (kn fl (ys.take k)) e2, .slice d2 (kn fl (ys.drop k)) h2] v fun e w' => e = .returned (.bool true) ∧ ∃ k, w' = v.drewN k) := fun v hv => cat_kl c2 e2 h2 hNy.out (HA9.out.later hv) (HT9.out.later hv) (HD9.out.later hv)
        have C3 : Hid (∀ v, Below z.heap.size z v → Calls Try.prog 6 #[.slice a3 (gn fl ys) c3, .slice b3 (gn fl (ys.take k)) e3, .slice d3 (gn fl (ys.drop k)) h3] v fun e w' => e = .returned (.bool true) ∧ ∃ k, w' = v.drewN k) := fun v hv => cat_gg c3 e3 h3 hNy.out (HA9.out.later hv) (HT9.out.later hv) (HD9.out.later hv)
        have C4 : Hid (∀ v, Below z.heap.size z v → Calls Try.prog 7 #[.slice a4 (gn fl ys) c4, .slice b4 (gn fl (ys.take k)) e4, .slice d4 (gn fl (ys.drop k)) h4] v fun e w' => e = .returned (.bool true) ∧ ∃ k, w' = v.drewN k) := fun v hv => cat_gl c4 e4 h4 hNy.out (HA9.out.later hv) (HT9.out.later hv) (HD9.out.later hv)
        go_wp2_with fail
        go_fit (C1.out z (Below.refl _ _))
        rintro e z1 ⟨rfl, q1, rfl⟩
        go_wp2_with fail
        go_fit (C2.out _ (below_drewN (Below.refl _ _) _))
        rintro e z2 ⟨rfl, q2, rfl⟩
        rw [World.drewN_drewN]
        go_wp2_with fail
        go_fit (C3.out _ (below_drewN (Below.refl _ _) _))
        rintro e z3 ⟨rfl, q3, rfl⟩
        rw [World.drewN_drewN]
        go_wp2_with fail
        go_fit (C4.out _ (below_drewN (Below.refl _ _) _))
        rintro e z4 ⟨rfl, q4, rfl⟩
        rw [World.drewN_drewN]
        go_wp2
        go_ret
        exact ⟨rfl, by first | exact below_drewN HBz.out _ | (rw [hg0]; exact below_drewN HBz.out _)⟩
end Go.Proofs.Qxb6617605a
