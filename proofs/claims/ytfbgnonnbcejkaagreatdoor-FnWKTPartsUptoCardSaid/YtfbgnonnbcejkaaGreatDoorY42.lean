/- Lemmas on the way to the law FnWKTParts, without conditions beside those that each states: The law: the walk. -/
import Derived.Test.YtfbgnonnbcejkaaGreatDoorY31
import Derived.Test.YtfbgnonnbcejkaaGreatDoorY41
namespace Go.Proofs.YtfbgnonnbcejkaaGreatDoor
open Go.RowKit

theorem GeoVs.lens {K : Nat} {w : World} {vs : List Value} {p : Geo} (h : GeoVs K w vs p) : ∃ (k l s : Int) (a3 a4 a5 a6 : Option Addr) (m3 m4 m5 m6 : Nat),
    vs = [.int .i64 k, .int .i64 l, .int .i64 s, .slice a3 p.flat.length m3, .slice a4 p.ends.length m4, .slice a5 p.endss.length m5, .slice a6 p.kids.length m6] := by
  cases p with
  | mk k l s f e ee kids =>
  obtain ⟨vf, ve, vee, vk, rfl, _, _, _, ⟨a3, c3, rfl, _⟩, ⟨a4, c4, rfl, _⟩, ⟨a5, c5, rfl, _⟩, ao, c, rfl, _⟩ := h
  exact ⟨_, _, _, _, _, _, _, _, _, _, _, rfl⟩
theorem numParts_le {K : Nat} {w : World} {vs : List Value} {p : Geo} (h : GeoVs K w vs p) : numPartsF p ≤ 1048576 := by
  cases p with
  | mk k l s f e ee kids =>
  obtain ⟨vf, ve, vee, vk, rfl, _, _, _, _, ⟨a4, c4, rfl, ⟨_, h4⟩, _⟩, ⟨a5, c5, rfl, ⟨_, h5⟩, _⟩, ao, c, rfl, ⟨_, h6⟩, _⟩ := h
  rw [numPartsF_eq]
  repeat' split
  all_goals omega
theorem small_geoW {g : Geo} (h : smallF g = true) : geoW g ≤ 2000 := by
  unfold smallF at h
  simp at h
  have := weightF_facts g 2000
  have h3 := this.2.2 h.1
  omega
theorem str_cat (a b : List UInt8) : (⟨a.toArray⟩ : ByteArray) ++ ⟨b.toArray⟩ = ⟨(a ++ b).toArray⟩ := by
  apply ByteArray.ext
  simp
theorem behindF_ne : ∀ l : List UInt8, behindF l ≠ []
  | [] => by decide
  | c :: r => by
    unfold behindF
    split
    · simp
    · exact behindF_ne r
theorem behindF_len : ∀ l : List UInt8, (behindF l).length ≤ l.length + 5
  | [] => by decide
  | c :: r => by
    have := behindF_len r
    unfold behindF
    split
    · simp
    · simp; omega
theorem extract_mid (l : List UInt8) : (⟨l.toArray⟩ : ByteArray).extract 1 (l.length - 1) = ⟨((l.drop 1).dropLast).toArray⟩ := by
  apply ByteArray.ext
  simp [ByteArray.data_extract, List.dropLast_eq_take]
theorem point_len (num : Nat → List UInt8) (k l s : Int) (f : List Nat) (e : List Int) (ee : List (List Int)) (kids : List Geo) (p : Geo) (hk : k = 4) (hp : p ∈ partsF (.mk k l s f e ee kids)) (hh : (behindF (textF num p)).head? = some 40) : 2 ≤ (behindF (textF num p)).length := by
  subst hk
  have hP : partsF (.mk 4 l s f e ee kids) = partsE 1 l f 0 e := rfl
  rw [hP] at hp
  have hq : ∀ (e : List Int) (s : Int), p ∈ partsE 1 l f s e → ∃ f', p = .mk 1 l 0 f' [] [] [] := by
    intro e
    induction e with
    | nil => intro s h; simp [partsE] at h
    | cons x r ih =>
      intro s h
      rcases List.mem_cons.1 h with rfl | h
      · exact ⟨_, rfl⟩
      · exact ih x h
  obtain ⟨f', rfl⟩ := hq e 0 hp
  rw [behindF_textF _ _ _ _ _ _ _ _ (by decide)] at hh ⊢
  have hL : leafF num 1 l f' [] [] = if f' = [] then EMP else 40 :: (coordF num true f' ++ [41]) := rfl
  rw [hL] at hh ⊢
  split
  · rename_i h
    rw [if_pos h, behindF_emp] at hh
    simp [EMP] at hh
  · simp [behindF]
theorem empty_vs (K : Nat) (w : World) (k l : Int) (hk : I64 k) (hl : I64 l) : GeoVs K w [.int .i64 k, .int .i64 l, .int .i64 0, .slice none 0 0, .slice none 0 0, .slice none 0 0, .slice none 0 0] (.mk k l 0 [] [] [] []) :=
  ⟨_, _, _, _, rfl, hk, hl, ⟨by decide, by decide⟩, ⟨none, 0, rfl, ⟨Nat.le_refl _, Nat.zero_le _⟩, fun hh => absurd hh (by simp)⟩, ⟨none, 0, rfl, ⟨Nat.le_refl _, Nat.zero_le _⟩, fun hh => absurd hh (by simp)⟩, ⟨none, 0, rfl, ⟨Nat.le_refl _, Nat.zero_le _⟩, fun hh => absurd hh (by simp)⟩, none, 0, rfl, ⟨Nat.le_refl _, Nat.zero_le _⟩, 0, 0, fun hh => absurd hh (by simp), by simp only [GeosAt]⟩

set_option maxHeartbeats 12800000 in
set_option maxRecDepth 100000 in
theorem law_c (K : Nat) (w : World) (vs : List Value) (k l s : Int) (f : List Nat) (e : List Int) (ee : List (List Int)) (kids : List Geo) (hv : GeoVs K w vs (.mk k l s f e ee kids)) (hK : K ≤ w.heap.size) (hW : geoW (.mk k l s f e ee kids) ≤ 1099511627776) (prec : Int) (T : Tabs w.heap.size w)
    (hL : -1 ≤ prec → prec ≤ 20 → LenOk prec) (hT : -1 ≤ prec → prec ≤ 20 → ∀ g : Geo, goodF g = true → geoW g ≤ 2000 → (textF (numF prec) g).length ≤ 1099511627776) :
    Calls Tryz.prog 3 #[.agg vs.toArray, .int .i64 prec] w fun en w' => en = .returned (.bool true) ∧ Below w.heap.size w w' := by
  obtain ⟨q0, q1, q2, b3, b4, b5, b6, n3, n4, n5, n6, m3, m4, m5, m6, hvs⟩ := hv.seven
  have hk0 : q0 = k := by
    obtain ⟨vf, ve, vee, vk, h0, _⟩ := hv
    rw [h0] at hvs
    simp at hvs
    exact hvs.1.symm
  have hl0 : q1 = l := by
    obtain ⟨vf, ve, vee, vk, h0, _⟩ := hv
    rw [h0] at hvs
    simp at hvs
    exact hvs.2.1.symm
  subst hk0 hl0
  rw [hvs] at hv ⊢
  generalize hg : Geo.mk q0 q1 s f e ee kids = g at *
  have hF := Lib.hid (fits2_c K w _ g hv hK)
  have hbx : Below w.heap.size w (w.alloc (.cells #[.int .i64 q0, .int .i64 q1, .int .i64 q2, .slice b3 n3 m3, .slice b4 n4 m4, .slice b5 n5 m5, .slice b6 n6 m6] 27)) := (Below.refl _ _).alloc (Nat.le_refl _) _
  have hF1 := Lib.hid (fun w' (hb : Below w.heap.size w w') => fits2_c K w' _ g (GeoVs.below (hb.mono hK) _ _ hv) (Nat.le_trans hK hb.size))
  have hG1 := Lib.hid (fun w' (b o c : Nat) (hb : Below w.heap.size w w') (hc : CellsAt w' b o [.int .i64 q0, .int .i64 q1, .int .i64 q2, .slice b3 n3 m3, .slice b4 n4 m4, .slice b5 n5 m5, .slice b6 n6 m6]) (hbl : b < w'.heap.size) => gGood_c g K b o c _ w' hc (GeoVs.below (hb.mono hK) _ _ hv) hbl (Nat.le_trans hK hb.size) hW)
  have hY1 := Lib.hid (fun w' (hb : Below w.heap.size w w') => gLay_c _ g (Nat.le_refl _) K 4 w' _ ⟨_, rfl, GeoVs.below (hb.mono hK) _ _ hv⟩ (Nat.le_trans hK hb.size))
  have hN1 := Lib.hid (fun w' (hb : Below w.heap.size w w') => numParts_c K w' _ g (GeoVs.below (hb.mono hK) _ _ hv))
  have hpl := Lib.hid (numParts_le hv)
  have hPr := Lib.hid (fun w' (hb : Below w.heap.size w w') (h1 : 4 ≤ q0 ∧ q0 ≤ 7) (h2 : goodF (Geo.mk q0 q1 s f e ee kids) = true) (h3 : (partsF (Geo.mk q0 q1 s f e ee kids)).length ≤ 1048576) => parts_c K w' _ q0 q1 s f e ee kids h1 h2 (by rw [hg]; exact GeoVs.below (hb.mono hK) _ _ hv) (Nat.le_trans hK hb.size) h3)
  have Hv := Lib.hid hv
  have Hg := Lib.hid hg
  have HT := Lib.hid hT
  have HL := Lib.hid hL
  have HTb := Lib.hid T
  clear hv hg hT hL T hvs hW hbx
  generalize hgd : (smallF g && goodF g) = gd at *
  generalize hly : gLayF 4 g = ly at *
  generalize hnp : numPartsF g = np at *
  have Hgd := Lib.hid hgd
  have Hly := Lib.hid hly
  have Hnp := Lib.hid hnp
  clear hgd hly hnp
  go_enter Tryz.func3, Tryz.ntmps3
  go_wp2_with fail
  have hbx : Below w.heap.size w (w.alloc (.cells #[.int .i64 q0, .int .i64 q1, .int .i64 q2, .slice b3 n3 m3, .slice b4 n4 m4, .slice b5 n5 m5, .slice b6 n6 m6] 27)) := (Below.refl _ _).alloc (Nat.le_refl _) _
  have hsx : (w.alloc (.cells #[.int .i64 q0, .int .i64 q1, .int .i64 q2, .slice b3 n3 m3, .slice b4 n4 m4, .slice b5 n5 m5, .slice b6 n6 m6] 27)).heap.size = w.heap.size + 1 := World.size_alloc ..
  have hcx : CellsAt (w.alloc (.cells #[.int .i64 q0, .int .i64 q1, .int .i64 q2, .slice b3 n3 m3, .slice b4 n4 m4, .slice b5 n5 m5, .slice b6 n6 m6] 27)) w.heap.size 0 [.int .i64 q0, .int .i64 q1, .int .i64 q2, .slice b3 n3 m3, .slice b4 n4 m4, .slice b5 n5 m5, .slice b6 n6 m6] := by
    intro j hj
    rw [Nat.zero_add, World.cell?_alloc_new, List.getD_eq_getElem?_getD, List.getElem?_eq_getElem hj]
    simp
  generalize w.alloc (.cells #[.int .i64 q0, .int .i64 q1, .int .i64 q2, .slice b3 n3 m3, .slice b4 n4 m4, .slice b5 n5 m5, .slice b6 n6 m6] 27) = w1 at *
  have Hcx := Lib.hid hcx
  have Hbx := Lib.hid hbx
  have Hsx := Lib.hid hsx
  clear hcx hbx hsx
  refine (hF1.out w1 Hbx.out).mono ?_
  try simp only [and_imp]
  rintro e2 w2 rfl hb2
  have hb2' : Below (w.heap.size + 1) w1 w2 := hb2.mono (by have := Hsx.out; omega)
  have hcy : CellsAt w2 w.heap.size 0 _ := fun j hj => keeps_below_cell hb2' (Nat.lt_succ_self _) (Hcx.out j hj)
  obtain ⟨x0, x1, x2, x3, x4, x5, x6⟩ := seven_cells hcy
  have hbw2 := Hbx.out.trans (hb2'.mono (Nat.le_succ _))
  have hbu := hbw2.alloc hbw2.size (.cells #[.int .i64 q0, .int .i64 q1, .int .i64 q2, .slice b3 n3 m3, .slice b4 n4 m4, .slice b5 n5 m5, .slice b6 n6 m6] 27)
  have hcu : CellsAt (w2.alloc (.cells #[.int .i64 q0, .int .i64 q1, .int .i64 q2, .slice b3 n3 m3, .slice b4 n4 m4, .slice b5 n5 m5, .slice b6 n6 m6] 27)) w2.heap.size 0 [.int .i64 q0, .int .i64 q1, .int .i64 q2, .slice b3 n3 m3, .slice b4 n4 m4, .slice b5 n5 m5, .slice b6 n6 m6] := by
    intro j hj
    rw [Nat.zero_add, World.cell?_alloc_new, List.getD_eq_getElem?_getD, List.getElem?_eq_getElem hj]
    simp
  have hGd := Lib.hid (hG1.out _ w2.heap.size 0 1 hbu hcu (by rw [World.size_alloc]; omega))
  have hsz2 : w.heap.size + 1 ≤ w2.heap.size := by have := hb2'.size; have := Hsx.out; omega
  have hbu2 : Below (w.heap.size + 1) w1 (w2.alloc (.cells #[.int .i64 q0, .int .i64 q1, .int .i64 q2, .slice b3 n3 m3, .slice b4 n4 m4, .slice b5 n5 m5, .slice b6 n6 m6] 27)) := hb2'.alloc hsz2 _
  have Hbu2 := Lib.hid hbu2
  clear hcy hcu hbu hb2 hb2' hbw2 hbu2
  go_wp2_with (go_at_call 5; refine hGd.out.mono ?_)
  try simp only [and_imp]
  rintro e3 w3 rfl hb3
  have hbb3 : Below (w.heap.size + 1) w1 w3 := Hbu2.out.trans (hb3.mono (by rw [World.size_alloc]; omega))
  have hsz3 : w.heap.size + 1 ≤ w3.heap.size := by have := hbb3.size; have := Hsx.out; omega
  have hc3 : CellsAt w3 w.heap.size 0 _ := fun j hj => keeps_below_cell hbb3 (Nat.lt_succ_self _) (Hcx.out j hj)
  have Hbb3 := Lib.hid hbb3
  have Hc3 := Lib.hid hc3
  clear hb3 hbb3 hc3 x0 x1 x2 x3 x4 x5 x6 hsz2
  have A6 := Lib.hid (fun w' (hb : Below (w.heap.size + 1) w1 w') => hY1.out w' (Hbx.out.trans (hb.mono (Nat.le_succ _))))
  have A7 := Lib.hid (fun w' (hb : Below (w.heap.size + 1) w1 w') => hN1.out w' (Hbx.out.trans (hb.mono (Nat.le_succ _))))
  have hfin := Lib.hid (fun w' (hb : Below (w.heap.size + 1) w1 w') => Hbx.out.trans (hb.mono (Nat.le_succ _)))
  obtain ⟨x0, x1, x2, x3, x4, x5, x6⟩ := seven_cells Hc3.out
  cases gd
  · go_wp2
    go_ret
    exact ⟨rfl, hfin.out _ Hbb3.out⟩
  cases ly
  · go_wp2_with (go_at_call 6; refine (A6.out _ Hbb3.out).mono ?_; rintro e4 w4 ⟨rfl, hb4⟩)
    go_ret
    exact ⟨rfl, hfin.out _ (Hbb3.out.trans (hb4.mono hsz3))⟩
  by_cases hk4 : q0 < 4
  · go_wp2_with (go_at_call 6; refine (A6.out _ Hbb3.out).mono ?_; rintro e4 w4 ⟨rfl, hb4⟩; have hbb4 : Below (w.heap.size + 1) w1 w4 := Hbb3.out.trans (hb4.mono hsz3); have hc4 : CellsAt w4 w.heap.size 0 _ := fun j hj => keeps_below_cell hbb4 (Nat.lt_succ_self _) (Hcx.out j hj); obtain ⟨y0, y1, y2, y3, y4, y5, y6⟩ := seven_cells hc4)
    go_ret
    exact ⟨rfl, hfin.out _ hbb4⟩
  by_cases hk7 : 7 < q0
  · go_wp2_with (go_at_call 6; refine (A6.out _ Hbb3.out).mono ?_; rintro e4 w4 ⟨rfl, hb4⟩; have hbb4 : Below (w.heap.size + 1) w1 w4 := Hbb3.out.trans (hb4.mono hsz3); have hc4 : CellsAt w4 w.heap.size 0 _ := fun j hj => keeps_below_cell hbb4 (Nat.lt_succ_self _) (Hcx.out j hj); obtain ⟨y0, y1, y2, y3, y4, y5, y6⟩ := seven_cells hc4)
    go_ret
    exact ⟨rfl, hfin.out _ hbb4⟩
  by_cases hnp : np = 0
  · have hnp' : ((np : Int) == 0) = true := by rw [hnp]; rfl
    clear hnp
    go_wp2_with (first | (go_at_call 6; refine (A6.out _ Hbb3.out).mono ?_; rintro e4 w4 ⟨rfl, hb4⟩; have hbb4 : Below (w.heap.size + 1) w1 w4 := Hbb3.out.trans (hb4.mono hsz3); have hc4 : CellsAt w4 w.heap.size 0 _ := fun j hj => keeps_below_cell hbb4 (Nat.lt_succ_self _) (Hcx.out j hj); obtain ⟨y0, y1, y2, y3, y4, y5, y6⟩ := seven_cells hc4) | (go_at_call 7; refine (A7.out _ hbb4).mono ?_; rintro e5 w5 ⟨rfl, hb5⟩; have hbb5 : Below (w.heap.size + 1) w1 w5 := hbb4.trans (hb5.mono (by have := hbb4.size; have := Hsx.out; omega)); have hc5 : CellsAt w5 w.heap.size 0 _ := fun j hj => keeps_below_cell hbb5 (Nat.lt_succ_self _) (Hcx.out j hj); obtain ⟨z0, z1, z2, z3, z4, z5, z6⟩ := seven_cells hc5))
    go_ret
    exact ⟨rfl, hfin.out _ hbb5⟩
  have hnp' : ((np : Int) == 0) = false := by rw [beq_eq_false_iff_ne]; omega
  by_cases hp0 : prec < -1
  · go_wp2_with (first | (go_at_call 6; refine (A6.out _ Hbb3.out).mono ?_; rintro e4 w4 ⟨rfl, hb4⟩; have hbb4 : Below (w.heap.size + 1) w1 w4 := Hbb3.out.trans (hb4.mono hsz3); have hc4 : CellsAt w4 w.heap.size 0 _ := fun j hj => keeps_below_cell hbb4 (Nat.lt_succ_self _) (Hcx.out j hj); obtain ⟨y0, y1, y2, y3, y4, y5, y6⟩ := seven_cells hc4) | (go_at_call 7; refine (A7.out _ hbb4).mono ?_; rintro e5 w5 ⟨rfl, hb5⟩; have hbb5 : Below (w.heap.size + 1) w1 w5 := hbb4.trans (hb5.mono (by have := hbb4.size; have := Hsx.out; omega)); have hc5 : CellsAt w5 w.heap.size 0 _ := fun j hj => keeps_below_cell hbb5 (Nat.lt_succ_self _) (Hcx.out j hj); obtain ⟨z0, z1, z2, z3, z4, z5, z6⟩ := seven_cells hc5))
    go_ret
    exact ⟨rfl, hfin.out _ hbb5⟩
  by_cases hp1 : 20 < prec
  · go_wp2_with (first | (go_at_call 6; refine (A6.out _ Hbb3.out).mono ?_; rintro e4 w4 ⟨rfl, hb4⟩; have hbb4 : Below (w.heap.size + 1) w1 w4 := Hbb3.out.trans (hb4.mono hsz3); have hc4 : CellsAt w4 w.heap.size 0 _ := fun j hj => keeps_below_cell hbb4 (Nat.lt_succ_self _) (Hcx.out j hj); obtain ⟨y0, y1, y2, y3, y4, y5, y6⟩ := seven_cells hc4) | (go_at_call 7; refine (A7.out _ hbb4).mono ?_; rintro e5 w5 ⟨rfl, hb5⟩; have hbb5 : Below (w.heap.size + 1) w1 w5 := hbb4.trans (hb5.mono (by have := hbb4.size; have := Hsx.out; omega)); have hc5 : CellsAt w5 w.heap.size 0 _ := fun j hj => keeps_below_cell hbb5 (Nat.lt_succ_self _) (Hcx.out j hj); obtain ⟨z0, z1, z2, z3, z4, z5, z6⟩ := seven_cells hc5))
    go_ret
    exact ⟨rfl, hfin.out _ hbb5⟩
  go_wp2_with (first | (go_at_call 6; refine (A6.out _ Hbb3.out).mono ?_; rintro e4 w4 ⟨rfl, hb4⟩; have hbb4 : Below (w.heap.size + 1) w1 w4 := Hbb3.out.trans (hb4.mono hsz3); have hc4 : CellsAt w4 w.heap.size 0 _ := fun j hj => keeps_below_cell hbb4 (Nat.lt_succ_self _) (Hcx.out j hj); obtain ⟨y0, y1, y2, y3, y4, y5, y6⟩ := seven_cells hc4) | (go_at_call 7; refine (A7.out _ hbb4).mono ?_; rintro e5 w5 ⟨rfl, hb5⟩; have hbb5 : Below (w.heap.size + 1) w1 w5 := hbb4.trans (hb5.mono (by have := hbb4.size; have := Hsx.out; omega)); have hc5 : CellsAt w5 w.heap.size 0 _ := fun j hj => keeps_below_cell hbb5 (Nat.lt_succ_self _) (Hcx.out j hj); obtain ⟨z0, z1, z2, z3, z4, z5, z6⟩ := seven_cells hc5))
  have hgd2 : smallF g = true ∧ goodF g = true := by have := Hgd.out; simpa using this
  have hk47 : 4 ≤ q0 ∧ q0 ≤ 7 := by omega
  have hgm : goodF (Geo.mk q0 q1 s f e ee kids) = true := by rw [Hg.out]; exact hgd2.2
  have hnl : np = (partsF g).length := by rw [← Hnp.out, ← Hg.out]; exact numParts_len q0 q1 s f e ee kids hk47
  have hPr2 := Lib.hid (fun w' (hb : Below (w.heap.size + 1) w1 w') => hPr.out w' (Hbx.out.trans (hb.mono (Nat.le_succ _))) hk47 hgm (by rw [Hg.out, ← hnl]; exact hpl.out))
  rw [Hg.out] at hPr2
  have hLl : (partsF g).length ≤ 1048576 := by rw [← hnl]; exact hpl.out
  have hnl0 : (partsF g).length ≠ 0 := by rw [← hnl]; exact hnp
  have Hgd2 := Lib.hid hgd2
  have Hnl0 := Lib.hid hnl0
  generalize hLg : partsF g = L at *
  have HLg := Lib.hid hLg
  clear hLg hnl hgd2 hgm hnl0 hnp hnp' y0 y1 y2 y3 y4 y5 y6 hc4 hc5 z0 z1 z2 z3 z4 z5 z6 x0 x1 x2 x3 x4 x5 x6 hPr hb4 hb5 hbb4
  refine (hPr2.out w5 hbb5).mono ?_
  try simp only [and_imp, forall_exists_index]
  rintro e6 w6 ao cc bb rfl hcc hao hgs hb6
  have hbb6 : Below (w.heap.size + 1) w1 w6 := hbb5.trans (hb6.mono (by have := hbb5.size; have := Hsx.out; omega))
  have hszb : w.heap.size + 1 ≤ w6.heap.size := by have := hbb6.size; have := Hsx.out; omega
  have Hgs := Lib.hid hgs
  have Hbb6 := Lib.hid hbb6
  clear hgs hb6 hbb5 hbb6
  go_wp2_with fail
  go_loopw [55] (fun i wr => ∃ j : Nat, j ≤ L.length ∧ i = .int .i64 j ∧ (∀ (q : Nat) (p : Geo), q < j → L[q]? = some p → ¬ (q0 = 6 ∧ p.flat = [] ∧ p.ends ≠ [])) ∧ Below w6.heap.size w6 wr) (fun i _ => L.length - (intOf i).toNat)
  case atStart => exact ⟨0, Nat.zero_le _, rfl, fun q p h => absurd h (Nat.not_lt_zero _), Below.refl _ _⟩
  case round =>
    obtain ⟨j, hj, rfl, hbad, hb⟩ := hrel
    have hbbr : Below (w.heap.size + 1) w1 wr := Hbb6.out.trans (hb.mono hszb)
    have hcr : CellsAt wr w.heap.size 0 _ := fun j hj => keeps_below_cell hbbr (Nat.lt_succ_self _) (Hcx.out j hj)
    obtain ⟨x0, x1, x2, x3, x4, x5, x6⟩ := seven_cells hcr
    have hszr : w.heap.size + 1 ≤ wr.heap.size := Nat.le_trans hszb hb.size
    have hltr : w.heap.size < wr.heap.size := hszr
    clear hcr
    by_cases hjl : j < L.length
    · obtain ⟨rfl, hbb0, hbb1⟩ := hao (by omega)
      have hget : L[j]? = some L[j] := List.getElem?_eq_getElem hjl
      obtain ⟨us, hc, hu⟩ := GeosAt.get L bb 0 j _ (GeosAt.below hb L bb 0 hbb1 Hgs.out) hget
      obtain ⟨y0, y1, y2, a3, a4, a5, a6, g3, g4, g5, g6, rfl⟩ := hu.lens
      rw [Nat.zero_add] at hc
      obtain ⟨d0, d1, d2, d3, d4, d5, d6⟩ := seven_cells hc
      have hbad2 : ¬ (q0 = 6 ∧ L[j].flat = [] ∧ L[j].ends ≠ []) → ∀ (q : Nat) (p : Geo), q < j + 1 → L[q]? = some p → ¬ (q0 = 6 ∧ p.flat = [] ∧ p.ends ≠ []) := fun hn q p hq hp => by
        rcases Nat.lt_or_ge q j with h | h
        · exact hbad q p h hp
        · obtain rfl : q = j := by omega
          rw [hget] at hp
          cases hp
          exact hn
      have Hbad2 := Lib.hid hbad2
      have Hj1 := Lib.hid (show j + 1 ≤ L.length from hjl)
      have Hb := Lib.hid hb
      have Hflz := Lib.hid (show L[j].flat.length = 0 ↔ L[j].flat = [] from List.length_eq_zero_iff)
      have Henz := Lib.hid (show L[j].ends.length = 0 ↔ L[j].ends = [] from List.length_eq_zero_iff)
      generalize L[j].flat.length = fl at *
      generalize L[j].ends.length = en at *
      generalize L[j].endss.length = ens at *
      generalize L[j].kids.length = kdn at *
      have Hbbr := Lib.hid hbbr
      have hb27 : Below wr.heap.size wr (wr.alloc (.cells #[.int .i64 y0, .int .i64 y1, .int .i64 y2, .slice a3 fl g3, .slice a4 en g4, .slice a5 ens g5, .slice a6 kdn g6] 27)) := (Below.refl _ _).alloc (Nat.le_refl _) _
      have Hb27 := Lib.hid hb27
      clear hbad hbad2 hb hbbr hc hu hget hb27
      by_cases h6 : q0 = 6
      · by_cases hfl : L[j].flat = []
        · by_cases hen : L[j].ends = []
          · have e1 : ((fl : Int) == 0) = true := by rw [Hflz.out.2 hfl]; rfl
            have e2 : decide (0 < en) = false := by rw [Henz.out.2 hen]; rfl
            have Hr := Lib.hid (Hbad2.out (fun hh => hh.2.2 hen))
            have h6' : (q0 == 6) = true := by simpa using h6
            clear hfl hen h6
            go_wp2
            go_roundw
            case rel => exact ⟨j + 1, Hj1.out, by go_num, Hr.out, Hb.out.trans (Hb27.out.mono Hb.out.size)⟩
            case measure => have := Hj1.out; simp [intOf]; omega
          · have e1 : ((fl : Int) == 0) = true := by rw [Hflz.out.2 hfl]; rfl
            have e2 : decide (0 < en) = true := decide_eq_true (Nat.pos_of_ne_zero (fun h => hen (Henz.out.1 h)))
            have h6' : (q0 == 6) = true := by simpa using h6
            clear hfl hen h6
            go_wp2
            go_ret
            exact ⟨rfl, hfin.out _ (Hbbr.out.trans (Hb27.out.mono hszr))⟩
        · have e1 : ((fl : Int) == 0) = false := by
            rw [beq_eq_false_iff_ne]; intro h; exact hfl (Hflz.out.1 (by omega))
          have Hr := Lib.hid (Hbad2.out (fun hh => hfl hh.2.1))
          have h6' : (q0 == 6) = true := by simpa using h6
          clear hfl h6
          go_wp2
          go_roundw
          case rel => exact ⟨j + 1, Hj1.out, by go_num, Hr.out, Hb.out.trans (Hb27.out.mono Hb.out.size)⟩
          case measure => have := Hj1.out; simp [intOf]; omega
      · have h6' : (q0 == 6) = false := by simpa using h6
        have Hr := Lib.hid (Hbad2.out (fun hh => h6 hh.1))
        clear h6
        go_wp2
        go_roundw
        case rel => exact ⟨j + 1, Hj1.out, by go_num, Hr.out, Hb.out.trans (Hb27.out.mono Hb.out.size)⟩
        case measure => have := Hj1.out; simp [intOf]; omega
    · have hje : j = L.length := by omega
      rw [hje] at hbad
      have Hbad := Lib.hid hbad
      have Hbbr := Lib.hid hbbr
      clear hbad hbbr hb hje
      obtain ⟨wa, rfl⟩ : ∃ z, z = wr := ⟨_, rfl⟩
      have hel : emptyL q0 q1 s f e ee kids = if q0 = 7 then layoutOfF g else q1 := by rw [← Hg.out]; rfl
      have hel64 : I64 (emptyL q0 q1 s f e ee kids) := by
        have h0 := Hv.out
        rw [← Hg.out] at h0
        have hl64 := layoutOf_I64 _ _ h0
        obtain ⟨_, _, _, _, _, _, h3, _⟩ := h0
        unfold emptyL
        split
        · exact hl64
        · exact h3
      generalize hEL : emptyL q0 q1 s f e ee kids = eL at *
      have HEL := Lib.hid hEL
      have Hel := Lib.hid hel
      have Hel64 := Lib.hid hel64
      have hLay := Lib.hid (fun w' (hb : Below (w.heap.size + 1) w1 w') => layoutOf_c _ g (Nat.le_refl _) K w' _ ⟨_, rfl, GeoVs.below ((hfin.out w' hb).mono hK) _ _ Hv.out⟩ (Nat.le_trans hK (hfin.out w' hb).size))
      clear hEL hel hel64
      go_upto_if 82 with fail
      have hPa := heap_alloc_new wa (.cells #[.int .i64 q0, .int .i64 q1, .int .i64 0, .slice none 0 0, .slice none 0 0, .slice none 0 0, .slice none 0 0] 27)
      have hal : Below wa.heap.size wa (wa.alloc (.cells #[.int .i64 q0, .int .i64 q1, .int .i64 0, .slice none 0 0, .slice none 0 0, .slice none 0 0, .slice none 0 0] 27)) := (Below.refl _ _).alloc (Nat.le_refl _) _
      have hps : (wa.alloc (.cells #[.int .i64 q0, .int .i64 q1, .int .i64 0, .slice none 0 0, .slice none 0 0, .slice none 0 0, .slice none 0 0] 27)).heap.size = wa.heap.size + 1 := World.size_alloc ..
      generalize wa.alloc (.cells #[.int .i64 q0, .int .i64 q1, .int .i64 0, .slice none 0 0, .slice none 0 0, .slice none 0 0, .slice none 0 0] 27) = wp at *
      have Hal := Lib.hid hal
      have HPa := Lib.hid hPa
      have Hps := Lib.hid hps
      have hbp := Hbbr.out.trans (hal.mono hszr)
      have hcp : CellsAt wp w.heap.size 0 _ := fun j hj => keeps_below_cell hbp (Nat.lt_succ_self _) (Hcx.out j hj)
      obtain ⟨v0, v1, v2, v3, v4, v5, v6⟩ := seven_cells hcp
      have Hbp := Lib.hid hbp
      clear hal hPa hps hbp hcp x0 x1 x2 x3 x4 x5 x6
      go_cut [7] (fun s7 wx => s7 = .pointer (some ⟨wa.heap.size, 0, none⟩) ∧ wx.heap[wa.heap.size]? = some (.cells #[.int .i64 q0, .int .i64 eL, .int .i64 0, .slice none 0 0, .slice none 0 0, .slice none 0 0, .slice none 0 0] 27 (0, 0)) ∧ Below wa.heap.size wa wx)
      case first =>
        by_cases h7 : q0 = 7
        · have h7' : (q0 == 7) = true := by simpa using h7
          have Helv := Lib.hid (show eL = layoutOfF g by rw [Hel.out, if_pos h7])
          clear h7
          go_wp2_with (go_at_call 9; refine (hLay.out _ Hbp.out).mono ?_)
          try simp only [and_imp]
          rintro e8 w8 rfl hb8
          rw [← Helv.out]
          have hP8 : w8.heap[wa.heap.size]? = some (.cells #[.int .i64 q0, .int .i64 q1, .int .i64 0, .slice none 0 0, .slice none 0 0, .slice none 0 0, .slice none 0 0] 27 (0, 0)) := (hb8.block _ (by have := Hps.out; omega)).trans HPa.out
          have p1 : w8.cell? ⟨wa.heap.size, 1, none⟩ = some (.int .i64 q1) := by rw [Lib.cell_of_heap hP8]; rfl
          have f1 : w8.frozen? ⟨wa.heap.size, 1, none⟩ = false := Lib.frozen_of_heap hP8 1
          have hb8' : Below wa.heap.size wa w8 := Hal.out.trans (hb8.mono (by have := Hps.out; omega))
          have HP8 := Lib.hid hP8
          have Hb8 := Lib.hid hb8'
          clear hP8 hb8 hb8'
          go_wp2_with fail
          go_meet
          case rel => exact ⟨rfl, setc_heap HP8.out, Hb8.out.setCell (p := ⟨wa.heap.size, 1, none⟩) (Nat.le_refl _) _⟩
        · have h7' : (q0 == 7) = false := by simpa using h7
          have Helv := Lib.hid (show eL = q1 by rw [Hel.out, if_neg h7])
          clear h7
          go_wp2_with fail
          go_meet
          case rel => exact ⟨rfl, by rw [Helv.out]; exact HPa.out, Hal.out⟩
      case rest =>
        obtain ⟨rfl, hPc, hbc⟩ := hcut
        have hbbc : Below (w.heap.size + 1) w1 wc := Hbbr.out.trans (hbc.mono hszr)
        have hltc : wa.heap.size < wc.heap.size := by
          rcases Nat.lt_or_ge wa.heap.size wc.heap.size with h' | h'
          · exact h'
          · simp [Array.getElem?_eq_none h'] at hPc
        have hcc : CellsAt wc wa.heap.size 0 [.int .i64 q0, .int .i64 eL, .int .i64 0, .slice none 0 0, .slice none 0 0, .slice none 0 0, .slice none 0 0] := by
          intro j hj
          rw [Lib.cell_of_heap hPc, Nat.zero_add, List.getD_eq_getElem?_getD, List.getElem?_eq_getElem hj]
          simp
        obtain ⟨p0, p1, p2, p3, p4, p5, p6⟩ := seven_cells hcc
        have Hbbc := Lib.hid hbbc
        have hgood := Hgd2.out.2
        have hlayg := Hly.out
        have hgW := small_geoW Hgd2.out.1
        have hem := empty_good q0 q1 s f e ee kids hk47 (by rw [Hg.out]; exact hgood) (by rw [Hg.out]; exact hlayg)
        have htx := empty_text (numF prec) q0 q1 s f e ee kids hk47
        rw [HEL.out] at hem htx
        have hp0' : -1 ≤ prec := by omega
        have hp1' : prec ≤ 20 := by omega
        have hTe := HT.out hp0' hp1' _ hem.1 (by rw [geoW_leaf]; simp)
        have hTg := HT.out hp0' hp1' _ hgood hgW
        have hlt := law_text (numF prec) q0 q1 s f e ee kids hk47 (by rw [Hg.out]; exact hgood) (by rw [Hg.out, HLg.out]; intro h; exact Hnl0.out (by rw [h]; rfl)) (fun h6 p hp => by
          rw [Hg.out, HLg.out] at hp
          obtain ⟨q, hq⟩ := List.getElem?_of_mem hp
          have := Hbad.out q p (List.getElem?_eq_some_iff.1 hq).1 hq
          exact fun hh => this ⟨h6, hh⟩)
        rw [Hg.out, HLg.out] at hlt
        rw [Hg.out] at htx
        have hq64 : I64 q0 := by
          have h0 := Hv.out
          rw [← Hg.out] at h0
          obtain ⟨_, _, _, _, _, h1, _⟩ := h0
          exact h1
        have hHWK := Lib.hid (fun (w' : World) (hb : Below (w.heap.size + 1) w1 w') (v : Value) (g' : Geo) (h1 : goodF g' = true) (h2 : gLayF 4 g' = true) (h3 : geoW g' ≤ 2000) (h4 : GeoAt w'.heap.size w' v g') =>
          writeWKT_c w'.heap.size prec v g' w' ((HTb.out.below (hfin.out w' hb)).up (hfin.out w' hb).size) hp0' hp1' (HL.out hp0' hp1') h1 h2 h4 (Nat.le_refl _) (by have := HT.out hp0' hp1' g' h1 h3; omega))
        have hW1 := hHWK.out wc hbbc _ _ hem.1 hem.2 (by rw [geoW_leaf]; simp) ⟨_, rfl, empty_vs wc.heap.size wc q0 eL hq64 Hel64.out⟩
        have hW2 := Lib.hid (fun w' (hb : Below (w.heap.size + 1) w1 w') => hHWK.out w' hb _ g hgood hlayg hgW ⟨_, rfl, GeoVs.up (Nat.le_trans hK (hfin.out w' hb).size) _ _ (GeoVs.below ((hfin.out w' hb).mono hK) _ _ Hv.out)⟩)
        rw [htx] at hW1 hTe
        rw [hlt] at hW2 hTg
        have hpg := Lib.hid (parts_good 4 q0 q1 s f e ee kids hk47 (by rw [Hg.out]; exact hgood) (by rw [Hg.out]; exact hlayg))
        rw [Hg.out, HLg.out] at hpg
        generalize hhd : kwF q0 ++ laF (layoutOfF g) = hd at *
        have hhl : kwF q0 ++ (laF (layoutOfF g) ++ 40 :: (seqF true (L.map (pieceF (numF prec) q0)) ++ [41])) = hd ++ 40 :: (seqF true (L.map (pieceF (numF prec) q0)) ++ [41]) := by rw [← hhd, List.append_assoc]
        rw [hhl] at hW2 hTg
        rw [List.length_append] at hTe
        generalize hHS : (⟨(hd ++ EMP).toArray⟩ : ByteArray) = HS at *
        generalize hSS : (⟨(hd ++ 40 :: (seqF true (L.map (pieceF (numF prec) q0)) ++ [41])).toArray⟩ : ByteArray) = SS at *
        have hHSs : HS.size = hd.length + 5 := by rw [← hHS, size_toArray, List.length_append]; rfl
        have hHSx : HS.extract 0 hd.length = ⟨hd.toArray⟩ := by rw [← hHS, extract_take, List.take_left]
        have HHS := Lib.hid hHS
        have HSS := Lib.hid hSS
        have HHSx := Lib.hid hHSx
        have HTg := Lib.hid hTg
        have Hhlen : Hid (hd.length + EMP.length ≤ 1099511627776) := Lib.hid hTe
        have hhn : hd.length ≤ 1099511627776 := by omega
        have HW1 := Lib.hid hW1
        have HgW := Lib.hid hgW
        clear hcc hPc hlt htx hem hTe hTg hHS hSS hHSx hhl hhd hW1 hlayg hgood hgW hbbc
        generalize hhdl : hd.length = hn at *
        have Hhdl := Lib.hid hhdl
        clear hhdl
        go_wp2_with (go_at_call 10; refine HW1.out.mono ?_)
        try simp only [and_imp]
        rintro e9 w9 rfl hb9
        have hbb9 : Below (w.heap.size + 1) w1 w9 := Hbbc.out.trans (hb9.mono (by have := Hbbc.out.size; have := Hsx.out; omega))
        have hc9 : CellsAt w9 w.heap.size 0 _ := fun j hj => keeps_below_cell hbb9 (Nat.lt_succ_self _) (Hcx.out j hj)
        obtain ⟨x0, x1, x2, x3, x4, x5, x6⟩ := seven_cells hc9
        have Hbb9 := Lib.hid hbb9
        clear hb9 hbb9 hc9 p0 p1 p2 p3 p4 p5 p6 v0 v1 v2 v3 v4 v5 v6
        go_wp2_with (go_at_call 10; refine (hW2.out _ Hbb9.out).mono ?_)
        try simp only [and_imp]
        rintro e10 w10 rfl hb10
        have hsz9 : w.heap.size + 1 ≤ w9.heap.size := by have := Hbb9.out.size; have := Hsx.out; omega
        have hbb10 : Below (w.heap.size + 1) w1 w10 := Hbb9.out.trans (hb10.mono hsz9)
        have hc10 : CellsAt w10 w.heap.size 0 _ := fun j hj => keeps_below_cell hbb10 (Nat.lt_succ_self _) (Hcx.out j hj)
        obtain ⟨y0, y1, y2, y3, y4, y5, y6⟩ := seven_cells hc10
        have Hbb10 := Lib.hid hbb10
        clear hb10 hbb10 hc10 x0 x1 x2 x3 x4 x5 x6
        go_wp2_with (go_at_call 8; refine (hPr2.out _ Hbb10.out).mono ?_)
        try simp only [and_imp, forall_exists_index]
        rintro e11 w11 ao2 cc2 bb2 rfl hcc2 hao2 hgs2 hb11
        have hsz10 : w.heap.size + 1 ≤ w10.heap.size := by have := Hbb10.out.size; have := Hsx.out; omega
        have hbb11 : Below (w.heap.size + 1) w1 w11 := Hbb10.out.trans (hb11.mono hsz10)
        have hsz11 : w.heap.size + 1 ≤ w11.heap.size := by have := hbb11.size; have := Hsx.out; omega
        have Hgs2 := Lib.hid hgs2
        have Hbb11 := Lib.hid hbb11
        clear hgs2 hb11 hbb11 y0 y1 y2 y3 y4 y5 y6
        go_wp2_with fail
        go_loopw [12, 118] (fun u i wr => ∃ (j : Nat) (W : ByteArray) (acc : List UInt8), j ≤ L.length ∧ i = .int .i64 j ∧ u = .string W ∧ W = ⟨(hd ++ 40 :: acc).toArray⟩ ∧ acc ++ seqF (j == 0) ((L.drop j).map (pieceF (numF prec) q0)) = seqF true (L.map (pieceF (numF prec) q0)) ∧ Below w11.heap.size w11 wr) (fun _ i _ => L.length - (intOf i).toNat)
        case atStart =>
          refine ⟨0, _, [], Nat.zero_le _, rfl, rfl, ?_, rfl, Below.refl _ _⟩
          rw [HHSx.out, show (⟨#[40]⟩ : ByteArray) = ⟨([40] : List UInt8).toArray⟩ from rfl, str_cat]
        case round =>
          obtain ⟨j, W, acc, hj, rfl, rfl, hWe, hacc, hb⟩ := hrel
          have hbbr2 : Below (w.heap.size + 1) w1 wr := Hbb11.out.trans (hb.mono hsz11)
          have hcr : CellsAt wr w.heap.size 0 _ := fun j hj => keeps_below_cell hbbr2 (Nat.lt_succ_self _) (Hcx.out j hj)
          obtain ⟨x0, x1, x2, x3, x4, x5, x6⟩ := seven_cells hcr
          have hszr2 : w.heap.size + 1 ≤ wr.heap.size := Nat.le_trans hsz11 hb.size
          clear hcr
          have hWsz : W.size ≤ 1099511627776 := by
            have h1 := congrArg List.length hacc
            have h2 := HTg.out
            rw [hWe, size_toArray]
            simp only [List.length_append, List.length_cons, List.length_nil] at h1 h2 ⊢
            omega
          have HWe := Lib.hid hWe
          have Hbbr2 := Lib.hid hbbr2
          have Hb := Lib.hid hb
          clear hWe hbbr2 hb
          by_cases hjl : j < L.length
          · obtain ⟨rfl, hbb0, hbb1⟩ := hao2 (by omega)
            have hget : L[j]? = some L[j] := List.getElem?_eq_getElem hjl
            have hmem : L[j] ∈ L := List.getElem_mem hjl
            obtain ⟨us, hc, hu⟩ := GeosAt.get L bb2 0 j _ (GeosAt.below Hb.out L bb2 0 hbb1 Hgs2.out) hget
            obtain ⟨t0, t1, t2, a3, a4, a5, a6, g3, g4, g5, g6, c3', c4', c5', c6', rfl⟩ := hu.seven
            rw [Nat.zero_add] at hc
            obtain ⟨d0, d1, d2, d3, d4, d5, d6⟩ := seven_cells hc
            have hpgj := hpg.out _ hmem
            have hpW : geoW L[j] ≤ 2000 := Nat.le_trans hpgj.2.2 HgW.out
            have hlenp := HT.out hp0' hp1' _ hpgj.1 hpW
            have hdrop : (L.drop j).map (pieceF (numF prec) q0) = pieceF (numF prec) q0 L[j] :: (L.drop (j + 1)).map (pieceF (numF prec) q0) := by
              rw [List.drop_eq_getElem_cons hjl, List.map_cons]
            rw [hdrop] at hacc
            simp only [seqF] at hacc
            have hpt : q0 = 4 → (behindF (textF (numF prec) L[j])).head? = some 40 → 2 ≤ (behindF (textF (numF prec) L[j])).length := fun h4 hh => point_len (numF prec) q0 q1 s f e ee kids L[j] h4 (by rw [Hg.out, HLg.out]; exact hmem) hh
            have hb27 : Below wr.heap.size wr (wr.alloc (.cells #[.int .i64 t0, .int .i64 t1, .int .i64 t2, .slice a3 g3 c3', .slice a4 g4 c4', .slice a5 g5 c5', .slice a6 g6 c6'] 27)) := (Below.refl _ _).alloc (Nat.le_refl _) _
            have hWp := Lib.hid (hHWK.out (wr.alloc (.cells #[.int .i64 t0, .int .i64 t1, .int .i64 t2, .slice a3 g3 c3', .slice a4 g4 c4', .slice a5 g5 c5', .slice a6 g6 c6'] 27)) (Hbbr2.out.trans (hb27.mono hszr2)) _ L[j] hpgj.1 hpgj.2.1 hpW ⟨_, rfl, GeoVs.up (Nat.le_trans Hb.out.size hb27.size) _ _ (GeoVs.below (hb27.mono Hb.out.size) _ _ hu)⟩)
            have Hj1 := Lib.hid (show j + 1 ≤ L.length from hjl)
            have hbeh := Lib.hid (fun w' => behind_c (textF (numF prec) L[j]) w' (by omega))
            have hpd : pieceF (numF prec) q0 L[j] = if q0 = 7 then textF (numF prec) L[j] else if q0 = 4 ∧ (behindF (textF (numF prec) L[j])).head? = some 40 then ((behindF (textF (numF prec) L[j])).drop 1).dropLast else behindF (textF (numF prec) L[j]) := rfl
            generalize pieceF (numF prec) q0 L[j] = piece at *
            generalize textF (numF prec) L[j] = tp at *
            have Hblb : Hid ((behindF tp).length ≤ 140737488355328) := Lib.hid (by have := behindF_len tp; omega)
            generalize hTS : (⟨tp.toArray⟩ : ByteArray) = TS at *
            have HTS := Lib.hid hTS
            have Hpd := Lib.hid hpd
            have Hacc := Lib.hid hacc
            have Hpt := Lib.hid hpt
            have Hb27 := Lib.hid hb27
            have hTSz : TS.size ≤ 1099511627776 := by rw [← hTS, size_toArray]; omega
            have hbn0 := behindF_ne tp
            generalize behindF tp = bl at *
            generalize hBS : (⟨bl.toArray⟩ : ByteArray) = BS at *
            have HBS := Lib.hid hBS
            have hBSz : BS.size ≤ 140737488355328 := by rw [← hBS, size_toArray]; exact Hblb.out
            have hESz : ∀ a b, (BS.extract a b).size ≤ 140737488355328 := fun a b => by rw [ByteArray.size_extract]; omega
            have HESz := Lib.hid hESz
            have Hbn0 := Lib.hid hbn0
            clear hacc hdrop hpd hpt hb27 hc hu hget hmem hpgj hpW hlenp hTS hBS hbn0 hESz
            go_wp2_with (go_at_call 10; refine hWp.out.mono ?_)
            try simp only [and_imp]
            rintro e12 w12 rfl hb12
            have hb12' : Below wr.heap.size wr w12 := Hb27.out.trans (hb12.mono (by first | omega | (simp)))
            have hbb12 : Below (w.heap.size + 1) w1 w12 := Hbbr2.out.trans (hb12'.mono hszr2)
            have hc12 : CellsAt w12 w.heap.size 0 _ := fun j hj => keeps_below_cell hbb12 (Nat.lt_succ_self _) (Hcx.out j hj)
            have Hbx2 : Hid (∀ w', w' = w12 → Below w11.heap.size w11 w') := Lib.hid (fun w' h => by rw [h]; exact Hb.out.trans (hb12'.mono Hb.out.size))
            have Hc12 := Lib.hid hc12
            clear hb12 hb12' hbb12 hc12 x0 x1 x2 x3 x4 x5 x6 d0 d1 d2 d3 d4 d5 d6
            obtain ⟨y0, y1, y2, y3, y4, y5, y6⟩ := seven_cells Hc12.out
            by_cases hj0 : j = 0
            · have Hj0 := Lib.hid hj0
              have hjn : ¬ (0 < j) := by omega
              clear hj0
              by_cases h7 : q0 = 7
              · have h7' : (q0 != 7) = false := by simpa using h7
                have h4' : (q0 == 4) = false := by rw [h7]; rfl
                have HPS : Hid ((⟨piece.toArray⟩ : ByteArray) = TS) := Lib.hid (by rw [Hpd.out, if_pos h7]; exact HTS.out)
                clear h7
                go_wp2
                go_roundw
                case rel => exact ⟨j + 1, _, acc ++ piece, Hj1.out, by go_num, rfl, by rw [HWe.out, ← HPS.out, str_cat]; simp, by rw [← Hacc.out]; simp [Hj0.out], Hbx2.out _ rfl⟩
                case measure => have := Hj1.out; simp [intOf]; omega
              · have h7' : (q0 != 7) = true := by simpa using h7
                by_cases h4 : q0 = 4
                · have h4' : (q0 == 4) = true := by simpa using h4
                  have hbsz : BS.size = bl.length := by rw [← HBS.out]; exact size_toArray bl
                  have hbpos : 0 < bl.length := List.length_pos_iff.2 Hbn0.out
                  have hb0 : ∀ (h : 0 < BS.size), BS[0] = bl.getD 0 0 := by
                    have := HBS.out
                    subst this
                    exact fun h => get_toArray bl 0 hbpos h
                  have hbs0 : 0 < BS.size := by omega
                  have hb00 := hb0 hbs0
                  have hhead : bl.head? = some (bl.getD 0 0) := by
                    cases bl with
                    | nil => exact absurd rfl Hbn0.out
                    | cons x r => rfl
                  generalize bl.getD 0 0 = x at *
                  by_cases h40 : x = 40
                  · have hh40 : bl.head? = some 40 := by rw [hhead, h40]
                    have h2 := Hpt.out h4 hh40
                    have hne : (((x.toNat : Nat) : Int) == 40) = true := by rw [h40]; rfl
                    have HPS : Hid ((⟨piece.toArray⟩ : ByteArray) = BS.extract 1 (bl.length - 1)) := Lib.hid (by rw [Hpd.out, if_neg h7, if_pos ⟨h4, hh40⟩, ← HBS.out]; exact (extract_mid bl).symm)
                    have hsub : ((bl.length : Int) - 1) = ((bl.length - 1 : Nat) : Int) := by omega
                    have hblb := Hblb.out
                    have hESz := HESz.out 1 (bl.length - 1)
                    generalize bl.length = bn at *
                    clear h7 h4 h40 hh40 hhead hb0
                    go_wp2_with (go_at_call 11; refine (hbeh.out _).mono ?_; rintro e13 w13 ⟨rfl, rfl⟩)
                    go_roundw
                    case rel => exact ⟨j + 1, _, acc ++ piece, Hj1.out, by go_num, rfl, by rw [HWe.out, ← HPS.out, str_cat]; simp, by rw [← Hacc.out]; simp [Hj0.out], Hbx2.out _ rfl⟩
                    case measure => have := Hj1.out; simp [intOf]; omega
                  · have hne : (((x.toNat : Nat) : Int) == 40) = false := by
                      rw [beq_eq_false_iff_ne]; intro h; exact h40 (UInt8.toNat_inj.1 (by simp; omega))
                    have HPS : Hid ((⟨piece.toArray⟩ : ByteArray) = BS) := Lib.hid (by rw [Hpd.out, if_neg h7, if_neg (fun hh => h40 (by have := hh.2; rw [hhead] at this; exact Option.some.inj this))]; exact HBS.out)
                    clear h7 h4 h40 hhead hb0
                    go_wp2_with (go_at_call 11; refine (hbeh.out _).mono ?_; rintro e13 w13 ⟨rfl, rfl⟩)
                    go_roundw
                    case rel => exact ⟨j + 1, _, acc ++ piece, Hj1.out, by go_num, rfl, by rw [HWe.out, ← HPS.out, str_cat]; simp, by rw [← Hacc.out]; simp [Hj0.out], Hbx2.out _ rfl⟩
                    case measure => have := Hj1.out; simp [intOf]; omega
                · have h4' : (q0 == 4) = false := by simpa using h4
                  have HPS : Hid ((⟨piece.toArray⟩ : ByteArray) = BS) := Lib.hid (by rw [Hpd.out, if_neg h7, if_neg (fun hh => h4 hh.1)]; exact HBS.out)
                  clear h7 h4
                  go_wp2_with (go_at_call 11; refine (hbeh.out _).mono ?_; rintro e13 w13 ⟨rfl, rfl⟩)
                  go_roundw
                  case rel => exact ⟨j + 1, _, acc ++ piece, Hj1.out, by go_num, rfl, by rw [HWe.out, ← HPS.out, str_cat]; simp, by rw [← Hacc.out]; simp [Hj0.out], Hbx2.out _ rfl⟩
                  case measure => have := Hj1.out; simp [intOf]; omega
            · have Hj0 := Lib.hid hj0
              have hjn : 0 < j := by omega
              clear hj0
              by_cases h7 : q0 = 7
              · have h7' : (q0 != 7) = false := by simpa using h7
                have h4' : (q0 == 4) = false := by rw [h7]; rfl
                have HPS : Hid ((⟨piece.toArray⟩ : ByteArray) = TS) := Lib.hid (by rw [Hpd.out, if_pos h7]; exact HTS.out)
                clear h7
                go_wp2
                go_roundw
                case rel => exact ⟨j + 1, _, acc ++ ([44, 32] ++ piece), Hj1.out, by go_num, rfl, by rw [HWe.out, ← HPS.out, show (⟨#[44, 32]⟩ : ByteArray) = ⟨([44, 32] : List UInt8).toArray⟩ from rfl, str_cat, str_cat]; simp, by rw [← Hacc.out]; simp [Hj0.out], Hbx2.out _ rfl⟩
                case measure => have := Hj1.out; simp [intOf]; omega
              · have h7' : (q0 != 7) = true := by simpa using h7
                by_cases h4 : q0 = 4
                · have h4' : (q0 == 4) = true := by simpa using h4
                  have hbsz : BS.size = bl.length := by rw [← HBS.out]; exact size_toArray bl
                  have hbpos : 0 < bl.length := List.length_pos_iff.2 Hbn0.out
                  have hb0 : ∀ (h : 0 < BS.size), BS[0] = bl.getD 0 0 := by
                    have := HBS.out
                    subst this
                    exact fun h => get_toArray bl 0 hbpos h
                  have hbs0 : 0 < BS.size := by omega
                  have hb00 := hb0 hbs0
                  have hhead : bl.head? = some (bl.getD 0 0) := by
                    cases bl with
                    | nil => exact absurd rfl Hbn0.out
                    | cons x r => rfl
                  generalize bl.getD 0 0 = x at *
                  by_cases h40 : x = 40
                  · have hh40 : bl.head? = some 40 := by rw [hhead, h40]
                    have h2 := Hpt.out h4 hh40
                    have hne : (((x.toNat : Nat) : Int) == 40) = true := by rw [h40]; rfl
                    have HPS : Hid ((⟨piece.toArray⟩ : ByteArray) = BS.extract 1 (bl.length - 1)) := Lib.hid (by rw [Hpd.out, if_neg h7, if_pos ⟨h4, hh40⟩, ← HBS.out]; exact (extract_mid bl).symm)
                    have hsub : ((bl.length : Int) - 1) = ((bl.length - 1 : Nat) : Int) := by omega
                    have hblb := Hblb.out
                    have hESz := HESz.out 1 (bl.length - 1)
                    generalize bl.length = bn at *
                    clear h7 h4 h40 hh40 hhead hb0
                    go_wp2_with (go_at_call 11; refine (hbeh.out _).mono ?_; rintro e13 w13 ⟨rfl, rfl⟩)
                    go_roundw
                    case rel => exact ⟨j + 1, _, acc ++ ([44, 32] ++ piece), Hj1.out, by go_num, rfl, by rw [HWe.out, ← HPS.out, show (⟨#[44, 32]⟩ : ByteArray) = ⟨([44, 32] : List UInt8).toArray⟩ from rfl, str_cat, str_cat]; simp, by rw [← Hacc.out]; simp [Hj0.out], Hbx2.out _ rfl⟩
                    case measure => have := Hj1.out; simp [intOf]; omega
                  · have hne : (((x.toNat : Nat) : Int) == 40) = false := by
                      rw [beq_eq_false_iff_ne]; intro h; exact h40 (UInt8.toNat_inj.1 (by simp; omega))
                    have HPS : Hid ((⟨piece.toArray⟩ : ByteArray) = BS) := Lib.hid (by rw [Hpd.out, if_neg h7, if_neg (fun hh => h40 (by have := hh.2; rw [hhead] at this; exact Option.some.inj this))]; exact HBS.out)
                    clear h7 h4 h40 hhead hb0
                    go_wp2_with (go_at_call 11; refine (hbeh.out _).mono ?_; rintro e13 w13 ⟨rfl, rfl⟩)
                    go_roundw
                    case rel => exact ⟨j + 1, _, acc ++ ([44, 32] ++ piece), Hj1.out, by go_num, rfl, by rw [HWe.out, ← HPS.out, show (⟨#[44, 32]⟩ : ByteArray) = ⟨([44, 32] : List UInt8).toArray⟩ from rfl, str_cat, str_cat]; simp, by rw [← Hacc.out]; simp [Hj0.out], Hbx2.out _ rfl⟩
                    case measure => have := Hj1.out; simp [intOf]; omega
                · have h4' : (q0 == 4) = false := by simpa using h4
                  have HPS : Hid ((⟨piece.toArray⟩ : ByteArray) = BS) := Lib.hid (by rw [Hpd.out, if_neg h7, if_neg (fun hh => h4 hh.1)]; exact HBS.out)
                  clear h7 h4
                  go_wp2_with (go_at_call 11; refine (hbeh.out _).mono ?_; rintro e13 w13 ⟨rfl, rfl⟩)
                  go_roundw
                  case rel => exact ⟨j + 1, _, acc ++ ([44, 32] ++ piece), Hj1.out, by go_num, rfl, by rw [HWe.out, ← HPS.out, show (⟨#[44, 32]⟩ : ByteArray) = ⟨([44, 32] : List UInt8).toArray⟩ from rfl, str_cat, str_cat]; simp, by rw [← Hacc.out]; simp [Hj0.out], Hbx2.out _ rfl⟩
                  case measure => have := Hj1.out; simp [intOf]; omega
          · have hje : j = L.length := by omega
            have hdr : L.drop j = [] := by rw [hje]; exact List.drop_length
            rw [hdr] at hacc
            simp only [List.map_nil, seqF, List.append_nil] at hacc
            have hWS : W ++ ⟨#[41]⟩ = SS := by rw [HWe.out, show (⟨#[41]⟩ : ByteArray) = ⟨([41] : List UInt8).toArray⟩ from rfl, str_cat, ← HSS.out, hacc]; simp
            have hWS2 : (SS.toList == (W ++ ⟨#[41]⟩).toList) = true := by rw [hWS]; exact beq_self_eq_true _
            have HWS2 := Lib.hid hWS2
            clear hdr hacc hWS hje hWS2
            go_wp2
            rw [HWS2.out]
            go_ret
            exact ⟨rfl, hfin.out _ Hbbr2.out⟩
end Go.Proofs.YtfbgnonnbcejkaaGreatDoor
