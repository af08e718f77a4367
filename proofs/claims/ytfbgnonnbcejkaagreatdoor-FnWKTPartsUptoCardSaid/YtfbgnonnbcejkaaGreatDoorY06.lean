/- Lemmas on the way to the law FnWKTParts, without conditions beside those that each states: gSmall of one geometry | Good: what it says, as a function | Good of what is no collection: the walk. -/
import Derived.Test.YtfbgnonnbcejkaaGreatDoorY05
import Derived.Deep.DeepCutAuto
namespace Go.Proofs.YtfbgnonnbcejkaaGreatDoor
open Go.RowKit

def smallF (g : Geo) : Bool := decide (weightF 2000 g ≤ 2000) && gLayF 9 g

set_option maxHeartbeats 3200000 in
theorem small_c (g : Geo) (K b o c : Nat) (vs : List Value) (w : World) (hc : CellsAt w b o vs) (hv : GeoVs K w vs g) (hb : b < w.heap.size) (hK : K ≤ w.heap.size) (hW : geoW g ≤ 1099511627776) :
    Calls Tryz.prog 13 #[.slice (some ⟨b, o, none⟩) 1 c] w fun e w' => e = .returned (.bool (smallF g)) ∧ Below w.heap.size w w' := by
  obtain ⟨q0, q1, q2, b3, b4, b5, b6, n3, n4, n5, n6, m3, m4, m5, m6, rfl⟩ := hv.seven
  obtain ⟨d0, d1, d2, d3, d4, d5, d6⟩ := seven_cells hc
  have hwf := weightF_facts g 2000
  obtain ⟨f1, f2, _⟩ := hwf
  have hC1 : Hid (∀ w', Below w.heap.size w w' → Calls Tryz.prog 21 #[.agg #[.int .i64 q0, .int .i64 q1, .int .i64 q2, .slice b3 n3 m3, .slice b4 n4 m4, .slice b5 n5 m5, .slice b6 n6 m6], .int .i64 2000] w' fun e w'' => e = .returned (.int .i64 (weightF 2000 g)) ∧ Below w'.heap.size w' w'') :=
    Lib.hid fun w' hw' => weight_c _ g (Nat.le_refl _) K 2000 w' _ ⟨_, rfl, GeoVs.below (hw'.mono hK) _ _ hv⟩ (Nat.le_trans hK hw'.size) hW (by omega) (by omega)
  have hC2 : Hid (∀ w', Below w.heap.size w w' → Calls Tryz.prog 6 #[.agg #[.int .i64 q0, .int .i64 q1, .int .i64 q2, .slice b3 n3 m3, .slice b4 n4 m4, .slice b5 n5 m5, .slice b6 n6 m6], .int .i64 9] w' fun e w'' => e = .returned (.bool (gLayF 9 g)) ∧ Below w'.heap.size w' w'') :=
    Lib.hid fun w' hw' => gLay_c _ g (Nat.le_refl _) K 9 w' _ ⟨_, rfl, GeoVs.below (hw'.mono hK) _ _ hv⟩ (Nat.le_trans hK hw'.size)
  have hF : Hid (smallF g = (decide (weightF 2000 g ≤ 2000) && gLayF 9 g)) := rfl
  clear hv hc
  generalize weightF 2000 g = wt at *
  generalize gLayF 9 g = lay at *
  generalize smallF g = R at *
  generalize geoW g = gw at *
  go_enter Tryz.func13, Tryz.ntmps13
  go_wp2
  go_loopw [3, 8] (fun l i wr => (i = .int .i64 0 ∧ l = .int .i64 2000 ∧ wr = w) ∨ (i = .int .i64 1 ∧ (∃ l0 : Int, l = .int .i64 l0) ∧ R = true ∧ Below w.heap.size w wr)) (fun _ i _ => 1 - (intOf i).toNat)
  case atStart => exact Or.inl ⟨rfl, rfl, rfl⟩
  case round =>
    rcases hrel with ⟨rfl, rfl, rfl⟩ | ⟨rfl, ⟨l0, rfl⟩, hR, hbw⟩
    · go_upto_region 5 with fail
      have hbx : Below wr.heap.size wr (wr.alloc (.cells #[.int .i64 q0, .int .i64 q1, .int .i64 q2, .slice b3 n3 m3, .slice b4 n4 m4, .slice b5 n5 m5, .slice b6 n6 m6] 27)) := (Below.refl _ _).alloc (Nat.le_refl _) _
      have hsx : (wr.alloc (.cells #[.int .i64 q0, .int .i64 q1, .int .i64 q2, .slice b3 n3 m3, .slice b4 n4 m4, .slice b5 n5 m5, .slice b6 n6 m6] 27)).heap.size = wr.heap.size + 1 := World.size_alloc ..
      have hcx : CellsAt (wr.alloc (.cells #[.int .i64 q0, .int .i64 q1, .int .i64 q2, .slice b3 n3 m3, .slice b4 n4 m4, .slice b5 n5 m5, .slice b6 n6 m6] 27)) wr.heap.size 0 [.int .i64 q0, .int .i64 q1, .int .i64 q2, .slice b3 n3 m3, .slice b4 n4 m4, .slice b5 n5 m5, .slice b6 n6 m6] := by
        intro j hj
        rw [Nat.zero_add, World.cell?_alloc_new, List.getD_eq_getElem?_getD, List.getElem?_eq_getElem hj]
        simp
      generalize wr.alloc (.cells #[.int .i64 q0, .int .i64 q1, .int .i64 q2, .slice b3 n3 m3, .slice b4 n4 m4, .slice b5 n5 m5, .slice b6 n6 m6] 27) = w1 at *
      obtain ⟨x0, x1, x2, x3, x4, x5, x6⟩ := seven_cells hcx
      have Hcx := Lib.hid hcx
      have Hsx := Lib.hid hsx
      clear hcx hsx d0 d1 d2 d3 d4 d5 d6
      go_upto_region 6 with (go_at_call 21; refine (hC1.out _ hbx).mono ?_; rintro e w3 ⟨rfl, hb3⟩)
      have hcy : CellsAt w3 wr.heap.size 0 [.int .i64 q0, .int .i64 q1, .int .i64 q2, .slice b3 n3 m3, .slice b4 n4 m4, .slice b5 n5 m5, .slice b6 n6 m6] :=
        fun j hj => (World.cell?_of_block (a := ⟨wr.heap.size, 0 + j, none⟩) (hb3.block wr.heap.size (by have := Hsx.out; omega))).trans (Hcx.out j hj)
      obtain ⟨y0, y1, y2, y3, y4, y5, y6⟩ := seven_cells hcy
      have hbw : Below wr.heap.size wr w3 := hbx.trans (hb3.mono (by have := Hsx.out; omega))
      have Hbw := Lib.hid hbw
      clear hcy x0 x1 x2 x3 x4 x5 x6 hb3 hbw hbx
      by_cases hwt : wt ≤ 2000
      · cases lay
        · have hR : Hid (R = false) := Lib.hid (by rw [hF.out]; simp)
          go_wp2_with (go_at_call 6; refine (hC2.out _ Hbw.out).mono ?_; rintro e w4 ⟨rfl, hb4⟩)
          go_ret
          exact ⟨ret_bool hR.out.symm, Hbw.out.trans (hb4.mono Hbw.out.size)⟩
        · have hR : Hid (R = true) := Lib.hid (by rw [hF.out, decide_eq_true hwt]; rfl)
          go_wp2_with (go_at_call 6; refine (hC2.out _ Hbw.out).mono ?_; rintro e w4 ⟨rfl, hb4⟩)
          go_roundw
          case rel => exact Or.inr ⟨rfl, ⟨_, rfl⟩, hR.out, Hbw.out.trans (hb4.mono Hbw.out.size)⟩
          case measure => simp [intOf]
      · have hR : Hid (R = false) := Lib.hid (by rw [hF.out, decide_eq_false hwt]; rfl)
        go_wp2_with (go_at_call 6; refine (hC2.out _ Hbw.out).mono ?_; rintro e w4 ⟨rfl, hb4⟩)
        go_ret
        exact ⟨ret_bool hR.out.symm, Hbw.out⟩
    · have HR := Lib.hid hR
      have Hb := Lib.hid hbw
      clear hR hbw
      go_wp2
      go_ret
      exact ⟨ret_bool HR.out.symm, Hb.out⟩
end Go.Proofs.YtfbgnonnbcejkaaGreatDoor
namespace Go.Proofs.YtfbgnonnbcejkaaGreatDoor
open Go.RowKit

def goodEndssF (st : Int) : List (List Int) → Int → Bool → Int × Bool
  | [], t, ok => (t, ok)
  | x :: r, t, ok => goodEndssF st r (goodEndsF st false x t).1 (ok && (goodEndsF st false x t).2)
/-- Good of what is no collection. -/
def goodLeaf (k l : Int) (nf : Nat) (e : List Int) (ee : List (List Int)) (nk : Nat) : Bool :=
  if strideF l = 0 ∨ (nf : Int) % strideF l ≠ 0 ∨ 0 < nk ∨ (0 < ee.length ∧ k ≠ 6) then false
  else if k = 1 then decide (e.length = 0) && decide ((nf : Int) ≤ strideF l)
  else if k = 2 ∨ k = 8 then decide (e.length = 0)
  else if k = 3 ∨ k = 4 ∨ k = 5 then (goodEndsF (strideF l) (decide (k = 4)) e 0).2 && decide ((goodEndsF (strideF l) (decide (k = 4)) e 0).1 = nf)
  else if k = 6 then (goodEndssF (strideF l) ee 0 true).2 && (decide ((goodEndssF (strideF l) ee 0 true).1 = nf) && decide (e.length = 0))
  else false
mutual
def goodF : Geo → Bool
  | .mk k l _ f e ee kids => if k = 7 then goodAll l kids && (decide (0 ≤ l) && decide (f.length + e.length + ee.length = 0)) else goodLeaf k l f.length e ee kids.length
def goodAll (l : Int) : List Geo → Bool
  | [] => true
  | g :: r => (goodF g && (decide (l = 0) || decide (layoutOfF g = l))) && goodAll l r
end
theorem goodAll_drop (l : Int) (kids : List Geo) (k : Nat) (g : Geo) (h : kids[k]? = some g) : goodAll l (kids.drop k) = ((goodF g && (decide (l = 0) || decide (layoutOfF g = l))) && goodAll l (kids.drop (k + 1))) := by
  obtain ⟨hk, he⟩ := List.getElem?_eq_some_iff.1 h
  rw [List.drop_eq_getElem_cons hk, he]
  simp only [goodAll]
theorem strideF_range (l : Int) (h : I64 l) : 0 ≤ strideF l ∧ I64 (strideF l) := by
  unfold strideF I64 at *
  split
  · omega
  · split
    · omega
    · split <;> omega
theorem goodEndsF_range (st : Int) (s : Bool) : ∀ (e : List Int) (f : Int), (∀ x ∈ e, I64 x) → I64 f → f ≤ (goodEndsF st s e f).1 ∧ I64 (goodEndsF st s e f).1
  | [], f, _, hf => ⟨Int.le_refl _, hf⟩
  | x :: r, f, he, hf => by
    unfold goodEndsF
    split
    · exact ⟨Int.le_refl _, hf⟩
    · rename_i hn
      have := goodEndsF_range st s r x (fun y hy => he y (List.mem_cons_of_mem _ hy)) (he x List.mem_cons_self)
      refine ⟨?_, this.2⟩
      have h2 : ¬ x < f := fun h => hn (Or.inl h)
      omega
theorem IntsAt.all {K : Nat} {w : World} {v : Value} {xs : List Int} (h : IntsAt K w v xs) : ∀ x ∈ xs, I64 x := by
  obtain ⟨ao, c, h1, h2, h3⟩ := h
  intro x hx
  obtain ⟨j, hj, rfl⟩ := List.getElem_of_mem hx
  obtain ⟨b, o, h4, h5, h6⟩ := h3 (by omega)
  have := (h6 j hj).2
  rw [List.getD_eq_getElem?_getD, List.getElem?_eq_getElem hj] at this
  exact this
end Go.Proofs.YtfbgnonnbcejkaaGreatDoor
namespace Go.Proofs.YtfbgnonnbcejkaaGreatDoor
open Go.RowKit

theorem endss_drop' (xs : List (List Int)) (i : Nat) (h : i < xs.length) : xs.drop i = xs.getD i [] :: xs.drop (i + 1) := by
  rw [List.drop_eq_getElem_cons h, List.getD_eq_getElem?_getD, List.getElem?_eq_getElem h]; rfl

set_option maxHeartbeats 6400000 in
set_option maxRecDepth 100000 in
theorem goodLeaf6_c (K : Nat) (w : World) (l s : Int) (f : List Nat) (e : List Int) (ee : List (List Int)) (kids : List Geo) (vs : List Value) (hv : GeoVs K w vs (.mk 6 l s f e ee kids)) (hK : K ≤ w.heap.size) :
    Calls Tryz.prog 14 #[.agg vs.toArray] w fun en w' => en = .returned (.bool (goodLeaf 6 l f.length e ee kids.length)) ∧ Below w.heap.size w w' := by
  obtain ⟨vf, ve, vee, vk, rfl, h1, h2, h3, ⟨a3, c3, rfl, ⟨hc3, hl3⟩, _⟩, h5, h6, ao, c, rfl, ⟨h8, hkl⟩, b, o, h9, h10⟩ := hv
  have h5' := h5
  have h6' := h6
  obtain ⟨a4, c4, rfl, ⟨hc4, hl4⟩, _⟩ := h5'
  obtain ⟨a5, c5, rfl, ⟨hc5, hl5⟩, _⟩ := h6'
  have hbx : Below w.heap.size w (w.alloc (.cells #[.int .i64 6, .int .i64 l, .int .i64 s, .slice a3 f.length c3, .slice a4 e.length c4, .slice a5 ee.length c5, .slice ao kids.length c] 27)) := (Below.refl _ _).alloc (Nat.le_refl _) _
  have H5 : Hid (IntsAt K (w.alloc (.cells #[.int .i64 6, .int .i64 l, .int .i64 s, .slice a3 f.length c3, .slice a4 e.length c4, .slice a5 ee.length c5, .slice ao kids.length c] 27)) (.slice a4 e.length c4) e) := Lib.hid (h5.below (hbx.mono hK))
  have H6 : Hid (IntssAt K (w.alloc (.cells #[.int .i64 6, .int .i64 l, .int .i64 s, .slice a3 f.length c3, .slice a4 e.length c4, .slice a5 ee.length c5, .slice ao kids.length c] 27)) (.slice a5 ee.length c5) ee) := Lib.hid (h6.below (hbx.mono hK))
  have Hbx := Lib.hid hbx
  have hcs : Hid (∀ w', Calls Tryz.prog 22 #[.int .i64 l] w' fun e w'' => e = .returned (.int .i64 (strideF l)) ∧ w' = w'') := Lib.hid (stride_c l)
  obtain ⟨hst0, hst1⟩ := strideF_range l h2
  obtain ⟨hst2, hst3⟩ := hst1
  have HF : Hid (goodLeaf 6 l f.length e ee kids.length = if strideF l = 0 ∨ (f.length : Int) % strideF l ≠ 0 ∨ 0 < kids.length ∨ (0 < ee.length ∧ (6 : Int) ≠ 6) then false
    else if (6 : Int) = 1 then decide (e.length = 0) && decide ((f.length : Int) ≤ strideF l)
    else if (6 : Int) = 2 ∨ (6 : Int) = 8 then decide (e.length = 0)
    else if (6 : Int) = 3 ∨ (6 : Int) = 4 ∨ (6 : Int) = 5 then (goodEndsF (strideF l) (decide ((6 : Int) = 4)) e 0).2 && decide ((goodEndsF (strideF l) (decide ((6 : Int) = 4)) e 0).1 = f.length)
    else if (6 : Int) = 6 then (goodEndssF (strideF l) ee 0 true).2 && (decide ((goodEndssF (strideF l) ee 0 true).1 = f.length) && decide (e.length = 0))
    else false) := rfl
  generalize goodLeaf 6 l f.length e ee kids.length = R at *
  generalize strideF l = st at *
  clear hbx h5 h6 h9 h10 h1 h2 h3
  generalize f.length = nf at *
  generalize kids.length = nk at *
  have HF2 : Hid (R = if st = 0 ∨ (nf : Int) % st ≠ 0 ∨ 0 < nk then false else ((goodEndssF st ee 0 true).2 && (decide ((goodEndssF st ee 0 true).1 = nf) && decide (e.length = 0)))) := Lib.hid (by
    rw [HF.out]
    by_cases h : st = 0 ∨ (nf : Int) % st ≠ 0 ∨ 0 < nk
    · rw [if_pos h, if_pos (h.elim Or.inl (fun h => Or.inr (h.elim Or.inl (fun h => Or.inr (Or.inl h)))))]
    · rw [if_neg h, if_neg (by rintro (h1 | h1 | h1 | h1); exact h (Or.inl h1); exact h (Or.inr (Or.inl h1)); exact h (Or.inr (Or.inr h1)); exact h1.2 rfl)]
      rfl)
  clear HF
  by_cases s0 : st = 0
  · have hR : Hid (R = false) := Lib.hid (by rw [HF2.out, if_pos (Or.inl s0)])
    subst s0
    go_enter Tryz.func14, Tryz.ntmps14
    go_wp2_with (go_at_call 22; refine (hcs.out _).mono ?_; rintro e w' ⟨rfl, rfl⟩)
    go_ret
    exact ⟨ret_bool hR.out.symm, Hbx.out⟩
  have s0' : (st == 0) = false := by simpa using s0
  by_cases m0 : (nf : Int) % st = 0
  rotate_left
  · have hR : Hid (R = false) := Lib.hid (by rw [HF2.out, if_pos (Or.inr (Or.inl m0))])
    go_enter Tryz.func14, Tryz.ntmps14
    go_wp2_with (go_at_call 22; refine (hcs.out _).mono ?_; rintro e w' ⟨rfl, rfl⟩)
    go_ret
    exact ⟨ret_bool hR.out.symm, Hbx.out⟩
  by_cases hnk : 0 < nk
  · have hR : Hid (R = false) := Lib.hid (by rw [HF2.out, if_pos (Or.inr (Or.inr hnk))])
    go_enter Tryz.func14, Tryz.ntmps14
    go_wp2_with (go_at_call 22; refine (hcs.out _).mono ?_; rintro e w' ⟨rfl, rfl⟩)
    go_ret
    exact ⟨ret_bool hR.out.symm, Hbx.out⟩
  obtain rfl : nk = 0 := by omega
  have HF3 : Hid (R = ((goodEndssF st ee 0 true).2 && (decide ((goodEndssF st ee 0 true).1 = nf) && decide (e.length = 0)))) := Lib.hid (by
    rw [HF2.out, if_neg (by simp [s0, m0])])
  clear HF2 H5
  generalize e.length = ne at *
  go_enter Tryz.func14, Tryz.ntmps14
  go_wp2_with (go_at_call 22; refine (hcs.out _).mono ?_; rintro e w' ⟨rfl, rfl⟩)
  all_goals
    have c3' : (w.alloc (.cells #[.int .i64 6, .int .i64 l, .int .i64 s, .slice a3 nf c3, .slice a4 ne c4, .slice a5 ee.length c5, .slice ao 0 c] 27)).cell? ⟨w.heap.size, 3, none⟩ = some (.slice a3 nf c3) := by rw [World.cell?_alloc_new]; rfl
    have c4' : (w.alloc (.cells #[.int .i64 6, .int .i64 l, .int .i64 s, .slice a3 nf c3, .slice a4 ne c4, .slice a5 ee.length c5, .slice ao 0 c] 27)).cell? ⟨w.heap.size, 4, none⟩ = some (.slice a4 ne c4) := by rw [World.cell?_alloc_new]; rfl
    generalize w.alloc (.cells #[.int .i64 6, .int .i64 l, .int .i64 s, .slice a3 nf c3, .slice a4 ne c4, .slice a5 ee.length c5, .slice ao 0 c] 27) = w1 at *
    go_loopw [8, 9, 135] (fun t ok i wr => wr = w1 ∧ ∃ (j : Nat) (tt : Int) (okk : Bool), j ≤ ee.length ∧ i = .int .i64 j ∧ t = .int .i64 tt ∧ ok = .bool okk ∧ 0 ≤ tt ∧ I64 tt ∧ goodEndssF st (ee.drop j) tt okk = goodEndssF st ee 0 true) (fun _ _ i _ => ee.length - (intOf i).toNat)
    case atStart => exact ⟨rfl, 0, 0, true, Nat.zero_le _, rfl, rfl, rfl, Int.le_refl _, ⟨by decide, by decide⟩, rfl⟩
    case round =>
      obtain ⟨rfl, j, tt, okk, hj, rfl, rfl, rfl, ht0, ht1, hr⟩ := hrel
      by_cases hjl : j < ee.length
      · obtain ⟨_, _, hv5, _, hx6⟩ := H6.out
        cases hv5
        obtain ⟨b5, o5, rfl, hbK5, ha5⟩ := hx6 (by omega)
        obtain ⟨u, hcell, hu⟩ := ha5 j hjl
        rw [Nat.mul_one] at hcell
        rw [endss_drop' ee j hjl] at hr
        have hua := hu.all
        generalize ee.getD j [] = x at *
        simp only [goodEndssF] at hr
        have hge := goodEndsF_range st false x tt hua ht1
        have hC := Lib.hid (goodEnds_c K u x tt st false wr hu ht0 ht1 (by omega) ⟨hst2, hst3⟩)
        obtain ⟨au, cu, rfl, _, _⟩ := hu
        generalize goodEndsF st false x tt = ge at *
        obtain ⟨gt, gb⟩ := ge
        have Hr := Lib.hid hr
        obtain ⟨hg1, hg2⟩ := hge
        have hg0 : 0 ≤ gt := Int.le_trans ht0 hg1
        have Hg2 := Lib.hid hg2
        clear hr ha5 hx6 hua hg1 hg2 ht1
        cases okk
        · go_wp2_with (go_at_call 23; refine hC.out.mono ?_; rintro e w' ⟨rfl, rfl⟩)
          go_roundw
          case rel => exact ⟨trivial, j + 1, gt, false, by omega, by go_num, rfl, rfl, hg0, Hg2.out, Hr.out⟩
          case measure => simp [intOf]; omega
        · cases gb
          · go_wp2_with (go_at_call 23; refine hC.out.mono ?_; rintro e w' ⟨rfl, rfl⟩)
            go_roundw
            case rel => exact ⟨trivial, j + 1, gt, false, by omega, by go_num, rfl, rfl, hg0, Hg2.out, Hr.out⟩
            case measure => simp [intOf]; omega
          · go_wp2_with (go_at_call 23; refine hC.out.mono ?_; rintro e w' ⟨rfl, rfl⟩)
            go_roundw
            case rel => exact ⟨trivial, j + 1, gt, true, by omega, by go_num, rfl, rfl, hg0, Hg2.out, Hr.out⟩
            case measure => simp [intOf]; omega
      · have hje : j = ee.length := by omega
        rw [hje, List.drop_length] at hr
        have hv : goodEndssF st ee 0 true = (tt, okk) := by rw [← hr]; rfl
        have HF4 : Hid (R = (okk && (decide (tt = nf) && decide (ne = 0)))) := Lib.hid (by rw [HF3.out, hv])
        clear hr hje hv HF3 ht1
        cases okk
        · have hR : Hid (R = false) := Lib.hid (by rw [HF4.out]; rfl)
          go_wp2
          go_ret
          exact ⟨ret_bool hR.out.symm, Hbx.out⟩
        · by_cases q1 : tt = nf
          · have q1' : (tt == (nf : Int)) = true := by simpa using q1
            by_cases q2 : ne = 0
            · have hR : Hid (R = true) := Lib.hid (by rw [HF4.out, decide_eq_true q1, decide_eq_true q2]; rfl)
              have q2' : ((ne : Int) == 0) = true := by simpa using q2
              clear q1 q2
              go_wp2
              go_ret
              exact ⟨ret_bool hR.out.symm, Hbx.out⟩
            · have hR : Hid (R = false) := Lib.hid (by rw [HF4.out, decide_eq_false q2]; simp)
              have q2' : ((ne : Int) == 0) = false := by simpa using q2
              clear q1 q2
              go_wp2
              go_ret
              exact ⟨ret_bool hR.out.symm, Hbx.out⟩
          · have hR : Hid (R = false) := Lib.hid (by rw [HF4.out, decide_eq_false q1]; rfl)
            have q1' : (tt == (nf : Int)) = false := by simpa using q1
            clear q1
            go_wp2
            go_ret
            exact ⟨ret_bool hR.out.symm, Hbx.out⟩
end Go.Proofs.YtfbgnonnbcejkaaGreatDoor
