import Derived.Test.Qxb6617605aZip
namespace Go.Proofs.Qxb6617605a
open Go.RowKit

/-- the cells of a list of segments -/
def cellsP (ys : List (Int × Int)) : List Value := ys.flatMap fun p => [.int .u64 p.1, .int .i64 p.2]
theorem cellsP_snoc (ys : List (Int × Int)) (g l : Int) : cellsP (ys ++ [(g, l)]) = cellsP ys ++ [.int .u64 g, .int .i64 l] := by simp [cellsP]
theorem cellsP_len : ∀ ys : List (Int × Int), (cellsP ys).length = ys.length * 2
  | [] => rfl
  | p :: ys => by
    have ih := cellsP_len ys
    unfold cellsP at *
    simp only [List.flatMap_cons, List.length_append, List.length_cons, List.length_nil, ih]
    omega
theorem cellsP_at : ∀ (ys : List (Int × Int)) (j : Nat), j < ys.length → (cellsP ys)[j * 2]? = some (.int .u64 (gAt ys j)) ∧ (cellsP ys)[j * 2 + 1]? = some (.int .i64 (lAt ys j))
  | [], j, h => absurd h (Nat.not_lt_zero _)
  | p :: ys, 0, _ => ⟨rfl, rfl⟩
  | p :: ys, j + 1, h => by
    have ih := cellsP_at ys j (by simpa using h)
    have e : cellsP (p :: ys) = [.int .u64 p.1, .int .i64 p.2] ++ cellsP ys := rfl
    have e1 : (j + 1) * 2 = j * 2 + 2 := by omega
    have e2 : (j + 1) * 2 + 1 = j * 2 + 1 + 2 := by omega
    rw [e, e2, e1, List.getElem?_append_right (by simp), List.getElem?_append_right (by simp)]
    simpa [gAt, lAt] using ih

/-- two rows of the call's own lie apart -/
def Apart (u v : Value) : Prop := ∀ b, u.ownBlock = some b → v.ownBlock ≠ some b
theorem Apart.symm {u v : Value} (h : Apart u v) : Apart v u := fun b hv hu => h b hu hv

theorem step_own {B : Nat} {w wr w' : World} {o1 o2 : Obj} {u v u' : Value} {nu nv : Nat} {xu xv : List Value} (hU : wr.ownsRow B 37 2 u nu xu) (hV : wr.ownsRow B 37 2 v nv xv) (hA : Apart u v) (hB : Below B w wr) (hBs : B ≤ wr.heap.size)
    (hg : ((wr.alloc o1).alloc o2).grownBy w' u.ownBlock) (hw : u'.ownBlock = u.ownBlock ∨ u'.ownBlock = some ((wr.alloc o1).alloc o2).heap.size) :
    w'.ownsRow B 37 2 v nv xv ∧ Apart u' v ∧ Below B w w' := by
  have hs : ((wr.alloc o1).alloc o2).heap.size = wr.heap.size + 2 := by simp
  refine ⟨((hV.alloc o1).alloc o2).kept hg ?_, ?_, ?_⟩
  · cases e : v.ownBlock with
    | none => exact .inl rfl
    | some b => exact .inr fun e' => hA b e'.symm e
  · intro b hb hv
    rcases hw with hw | hw
    · exact hA b (hw.symm.trans hb) hv
    · rw [hw] at hb
      have h1 := hV.lt b hv
      injection hb with hb
      omega
  · refine ((hB.alloc hBs o1).alloc (by simp; omega) o2).grown hg (by rw [hs]; omega) ?_
    intro k hk
    exact (hU.lt k hk).1

theorem news_cells (W : World) (o : Obj) (g l : Int) : ∀ (j : Nat) (u : Value), [Value.int .u64 g, Value.int .i64 l][j]? = some u → ((W.alloc o).alloc (.cells #[.int .u64 g, .int .i64 l] 37)).cell? ((⟨W.heap.size + 1, 0, none⟩ : Addr).add j) = some u := by
  intro j u h
  have := cell_two_new (W.alloc o) (.int .u64 g) (.int .i64 l) 37 j u h
  simpa using this

theorem own_row {w : World} {B : Nat} {v : Value} {zs : List (Int × Int)} (h : w.ownsRow B 37 2 v zs.length (cellsP zs)) : ∃ a c, v = .slice a zs.length c ∧ PairRow w a zs.length zs := by
  rcases h.2 with ⟨rfl, hn⟩ | ⟨g, cap, cur, rfl, hb, hg, hn, hm, hc, ht⟩
  · exact ⟨none, 0, by rw [hn], .inl hn⟩
  · refine ⟨_, _, rfl, .inr ⟨g, 0, rfl, fun j hj => ?_⟩⟩
    have := cellsP_at zs j hj
    rw [h.cellAt _ (by omega), h.cellAt _ (by omega)]
    simpa using this

theorem results4 {fn : Func} {t u v x : Tmp} (h : fn.results = #[.tmp t, .tmp u, .tmp v, .tmp x]) (tmps : Array Value) (P : Program) (w : World) :
    (results fn tmps).run P w = .ok (.tuple #[tmps.getD t undef, tmps.getD u undef, tmps.getD v undef, tmps.getD x undef]) w := by
  simp [results, h]

theorem one37 {g l : Int} : ∀ u ∈ [Value.int .u64 g, Value.int .i64 l], u.oneCell' = true := by
  intro u hu
  simp at hu
  rcases hu with rfl | rfl <;> rfl

set_option maxHeartbeats 2000000 in
theorem passed_any (a : Option Addr) (n c : Nat) (ys : List (Int × Int)) (fl : Int) (w : World) (hlen : ys.length = n) (hN : n ≤ 65536) (r : PairRow w a n ys) :
    Calls Try.prog 9 #[.slice a n c, .int .i64 fl] w fun e w' => ∃ ak ck ag cg, e = .returned (.tuple #[.slice ak (kept fl ys).length ck, .slice ag (gone fl ys).length cg]) ∧
      PairRow w' ak (kept fl ys).length (kept fl ys) ∧ PairRow w' ag (gone fl ys).length (gone fl ys) ∧ Below w.heap.size w w' := by
  have HR : Hid (PairRow w a n ys) := r
  have HL : Hid (ys.length = n) := hlen
  clear r hlen
  go_enter Try.func9, Try.ntmps9
  go_wp2
  go_loopw [4, 5, 10] (fun vk vg i wr => ∃ k : Nat, k ≤ n ∧ i = .int .i64 k ∧ wr.ownsRow w.heap.size 37 2 vk (kept fl (ys.take k)).length (cellsP (kept fl (ys.take k))) ∧
      wr.ownsRow w.heap.size 37 2 vg (gone fl (ys.take k)).length (cellsP (gone fl (ys.take k))) ∧ Apart vk vg ∧ Below w.heap.size w wr) (fun _ _ i _ => n - (intOf i).toNat)
  case atStart => exact ⟨0, Nat.zero_le _, rfl, World.ownsRow_nil _ _ _ _, World.ownsRow_nil _ _ _ _, (fun b h => by cases h), Below.refl _ _⟩
  case round =>
    obtain ⟨k, hk, rfl, hK, hG, hA, hB⟩ := hrel
    have lk := kept_len fl (ys.take k)
    have lg := gone_len fl (ys.take k)
    have lt : (ys.take k).length ≤ k := List.length_take_le _ _
    by_cases hlt : k < n
    · have hltI : (k : Int) < n := by omega
      obtain ⟨b, off, rfl, q⟩ : ∃ b off, a = some ⟨b, off, none⟩ ∧ ∀ j, j < n → w.cell? ⟨b, off + j * 2, none⟩ = some (.int .u64 (gAt ys j)) ∧ w.cell? ⟨b, off + j * 2 + 1, none⟩ = some (.int .i64 (lAt ys j)) := by
        rcases HR.out with h | h
        · omega
        · exact h
      have p0 := cell_later hB (q k hlt).1
      have p1 := cell_later hB (q k hlt).2
      have hBs : w.heap.size ≤ wr.heap.size := hB.size
      clear q
      have HK : Hid (wr.ownsRow w.heap.size 37 2 u4 (kept fl (ys.take k)).length (cellsP (kept fl (ys.take k)))) := hK
      have HG : Hid (wr.ownsRow w.heap.size 37 2 u5 (gone fl (ys.take k)).length (cellsP (gone fl (ys.take k)))) := hG
      have HA : Hid (Apart u4 u5) := hA
      have HB : Hid (Below w.heap.size w wr) := hB
      clear hK hG hA hB
      have hyl : k < ys.length := by rw [HL.out]; exact hlt
      by_cases hp : lAt ys k ≤ fl
      · go_wp2_with (at_builtin; refine wpList_append_lit (t := 30) w.heap.size 37 (.agg #[.int .u64 0, .int .i64 0]) 2 16 Try.underlying30 info37 rfl (by omega) u5 _ _ ((HG.out.alloc _).alloc _) ⟨wr.heap.size + 1, 0, none⟩ 1 1 [.int .u64 (gAt ys k), .int .i64 (lAt ys k)] (by omega) rfl (news_cells wr _ _ _) one37 (by omega) (by omega) (by simp; omega) rfl rfl ?_; intro v' w' hown hgrow hwhere; have HO : Hid (w'.ownsRow w.heap.size 37 2 v' _ _) := hown; have HGR : Hid (World.grownBy _ w' _) := hgrow; have HW : Hid (v'.ownBlock = _ ∨ _) := hwhere; clear hown hgrow hwhere)
        have S := step_own HG.out HK.out HA.out.symm HB.out hBs HGR.out HW.out
        have hO := HO.out
        rw [← cellsP_snoc, ← gone_hit fl ys k hyl hp] at hO
        have eG : (gone fl (ys.take k)).length + 1 = (gone fl (ys.take (k + 1))).length := by rw [gone_hit fl ys k hyl hp]; simp
        rw [eG] at hO
        have hK1 := S.1
        rw [← kept_miss fl ys k hyl hp] at hK1
        have HR1 : Hid (w'.ownsRow w.heap.size 37 2 u4 (kept fl (ys.take (k + 1))).length (cellsP (kept fl (ys.take (k + 1)))) ∧ w'.ownsRow w.heap.size 37 2 v' (gone fl (ys.take (k + 1))).length (cellsP (gone fl (ys.take (k + 1)))) ∧ Apart u4 v' ∧ Below w.heap.size w w') := ⟨hK1, hO, S.2.1.symm, S.2.2⟩
        clear S hO eG hK1 HO HGR HW HK HG HA HB p0 p1
        go_wp2
        go_roundw
        case rel => exact ⟨k + 1, by omega, by go_num, HR1.out⟩
        case measure => simp [intOf]; omega
      · have hp' : fl < lAt ys k := by omega
        clear hp
        go_wp2_with (at_builtin; refine wpList_append_lit (t := 30) w.heap.size 37 (.agg #[.int .u64 0, .int .i64 0]) 2 16 Try.underlying30 info37 rfl (by omega) u4 _ _ ((HK.out.alloc _).alloc _) ⟨wr.heap.size + 1, 0, none⟩ 1 1 [.int .u64 (gAt ys k), .int .i64 (lAt ys k)] (by omega) rfl (news_cells wr _ _ _) one37 (by omega) (by omega) (by simp; omega) rfl rfl ?_; intro v' w' hown hgrow hwhere; have HO : Hid (w'.ownsRow w.heap.size 37 2 v' _ _) := hown; have HGR : Hid (World.grownBy _ w' _) := hgrow; have HW : Hid (v'.ownBlock = _ ∨ _) := hwhere; clear hown hgrow hwhere)
        have S := step_own HK.out HG.out HA.out HB.out hBs HGR.out HW.out
        have hO := HO.out
        rw [← cellsP_snoc, ← kept_hit fl ys k hyl hp'] at hO
        have eG : (kept fl (ys.take k)).length + 1 = (kept fl (ys.take (k + 1))).length := by rw [kept_hit fl ys k hyl hp']; simp
        rw [eG] at hO
        have hK1 := S.1
        rw [← gone_miss fl ys k hyl hp'] at hK1
        have HR1 : Hid (w'.ownsRow w.heap.size 37 2 v' (kept fl (ys.take (k + 1))).length (cellsP (kept fl (ys.take (k + 1)))) ∧ w'.ownsRow w.heap.size 37 2 u5 (gone fl (ys.take (k + 1))).length (cellsP (gone fl (ys.take (k + 1)))) ∧ Apart v' u5 ∧ Below w.heap.size w w') := ⟨hO, hK1, S.2.1, S.2.2⟩
        clear S hO eG hK1 HO HGR HW HK HG HA HB p0 p1
        go_wp2
        go_roundw
        case rel => exact ⟨k + 1, by omega, by go_num, HR1.out⟩
        case measure => simp [intOf]; omega
    · obtain rfl : k = n := by omega
      rw [List.take_of_length_le (by rw [HL.out]; exact Nat.le_refl _)] at hK hG
      obtain ⟨ak, ck, e1, r1⟩ := own_row hK
      obtain ⟨ag, cg, e2, r2⟩ := own_row hG
      clear lk lg lt hA hK hG
      have R1 : Hid (PairRow wr ak (kept fl ys).length (kept fl ys)) := r1
      have R2 : Hid (PairRow wr ag (gone fl ys).length (gone fl ys)) := r2
      have HB : Hid (Below w.heap.size w wr) := hB
      clear r1 r2 hB
      subst e1 e2
      go_wp2
      go_ret2
      exact ⟨_, _, _, _, rfl, R1.out, R2.out, HB.out⟩
end Go.Proofs.Qxb6617605a
