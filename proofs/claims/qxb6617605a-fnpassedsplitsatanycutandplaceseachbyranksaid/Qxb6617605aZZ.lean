import Derived.Test.Qxb6617605aUnzip
namespace Go.Proofs.Qxb6617605a
open Go.RowKit

theorem PairRow.later {w w' : World} {a : Option Addr} {n : Nat} {ys : List (Int × Int)} (h : PairRow w a n ys) (hb : Below w.heap.size w w') : PairRow w' a n ys := by
  rcases h with h | ⟨b, off, e, h⟩
  · exact .inl h
  · exact .inr ⟨b, off, e, fun j hj => ⟨cell_later hb (h j hj).1, cell_later hb (h j hj).2⟩⟩

/-- what the four lists of 'ZZPassed' hold -/
def Four (w : World) (fl : Int) (ys : List (Int × Int)) (a1 a2 a3 a4 : Option Addr) : Prop :=
  InRow w .u64 a1 (kept fl ys).length (gAt (kept fl ys)) ∧ InRow w .i64 a2 (kept fl ys).length (lAt (kept fl ys)) ∧ InRow w .u64 a3 (gone fl ys).length (gAt (gone fl ys)) ∧ InRow w .i64 a4 (gone fl ys).length (lAt (gone fl ys))
theorem Four.later {w w' : World} {fl : Int} {ys : List (Int × Int)} {a1 a2 a3 a4 : Option Addr} (h : Four w fl ys a1 a2 a3 a4) (hb : Below w.heap.size w w') : Four w' fl ys a1 a2 a3 a4 :=
  ⟨h.1.later hb, h.2.1.later hb, h.2.2.1.later hb, h.2.2.2.later hb⟩

set_option maxHeartbeats 2000000 in
theorem zz_any (a b : Option Addr) (n c d : Nat) (ys : List (Int × Int)) (fl : Int) (w : World) (hlen : ys.length = n) (hN : n ≤ 65536) (r1 : InRow w .u64 a n (gAt ys)) (r2 : InRow w .i64 b n (lAt ys)) :
    Calls Try.prog 5 #[.slice a n c, .slice b n d, .int .i64 fl] w fun e w' => ∃ a1 c1 a2 c2 a3 c3 a4 c4, e = .returned (.tuple #[.slice a1 (kept fl ys).length c1, .slice a2 (kept fl ys).length c2, .slice a3 (gone fl ys).length c3, .slice a4 (gone fl ys).length c4]) ∧
      Four w' fl ys a1 a2 a3 a4 ∧ Below w.heap.size w w' := by
  have Z := zip_any a b n c d ys w hN r1 r2
  have HL : Hid (ys.length = n) := hlen
  have lk := kept_len fl ys
  have lg := gone_len fl ys
  rw [hlen] at lk lg
  clear r1 r2 hlen
  go_enter Try.func5, Try.ntmps5
  go_wp2_with fail
  refine Z.mono ?_
  rintro e w1 ⟨oa, oc, rfl, hP, hB1⟩
  have K := passed_any oa n oc ys fl w1 HL.out hN hP
  have HB1 : Hid (Below w.heap.size w w1) := hB1
  clear Z hP hB1
  go_wp2_with fail
  refine K.mono ?_
  rintro e w2 ⟨ak, ck, ag, cg, rfl, hK, hG, hB2⟩
  have U1 := unzip_any ak _ ck (kept fl ys) w2 (by omega) hK
  have HB2 : Hid (Below w.heap.size w w2) := HB1.out.trans (hB2.mono HB1.out.size)
  have HG : Hid (PairRow w2 ag (gone fl ys).length (gone fl ys)) := hG
  clear K hK hG hB2 HB1
  go_wp2_with fail
  refine U1.mono ?_
  rintro e w3 ⟨a1, c1, a2, c2, rfl, h1, h2, hB3⟩
  have U2 := unzip_any ag _ cg (gone fl ys) w3 (by omega) (HG.out.later hB3)
  have HB3 : Hid (Below w.heap.size w w3) := HB2.out.trans (hB3.mono HB2.out.size)
  have H1 : Hid (InRow w3 .u64 a1 (kept fl ys).length (gAt (kept fl ys))) := h1
  have H2 : Hid (InRow w3 .i64 a2 (kept fl ys).length (lAt (kept fl ys))) := h2
  clear U1 h1 h2 hB3 HB2 HG
  go_wp2_with fail
  refine U2.mono ?_
  rintro e w4 ⟨a3, c3, a4, c4, rfl, h3, h4, hB4⟩
  have R : Hid (Four w4 fl ys a1 a2 a3 a4 ∧ Below w.heap.size w w4) := ⟨⟨H1.out.later hB4, H2.out.later hB4, h3, h4⟩, HB3.out.trans (hB4.mono HB3.out.size)⟩
  clear U2 h3 h4 hB4 HB3 H1 H2
  go_wp2
  (try simp only [Exit.inBlock, Exit.then])
  refine bodyPost_ret (results4 rfl _ _ _) rfl ?_
  exact ⟨a1, c1, a2, c2, a3, c3, a4, c4, rfl, R.out⟩
end Go.Proofs.Qxb6617605a
