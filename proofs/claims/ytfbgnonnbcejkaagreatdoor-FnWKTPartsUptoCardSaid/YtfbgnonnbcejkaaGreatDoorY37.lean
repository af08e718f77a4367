/- Lemmas on the way to the law FnWKTParts, without conditions beside those that each states: geometry: kind 3 | geometry: kind 5 | geometry: kind 6. -/
import Derived.Test.YtfbgnonnbcejkaaGreatDoorY15
namespace Go.Proofs.YtfbgnonnbcejkaaGreatDoor
open Go.RowKit
set_option maxHeartbeats 3200000 in
set_option maxRecDepth 100000 in
theorem geometry3_c (K : Nat) (w : World) (l s : Int) (f : List Nat) (e : List Int) (ee : List (List Int)) (kids : List Geo) (vs : List Value) (hv : GeoVs K w vs (.mk 3 l s f e ee kids)) (hK : K ≤ w.heap.size) (hl : 0 ≤ l) :
    Calls Tryz.prog 19 #[.agg vs.toArray] w fun en w' => ∃ bo, en = .returned (.iface 68 (.pointer (some ⟨bo, 0, none⟩))) ∧ ObjAt (fun b => w.heap.size ≤ b ∧ b < w'.heap.size) w' (.iface 68 (.pointer (some ⟨bo, 0, none⟩))) (.mk 3 l s f e ee kids) ∧ Below w.heap.size w w' := by
  obtain ⟨vf, ve, vee, vk, rfl, h1, h2, h3, h4, h5, h6, ao, c, rfl, ⟨h8, hkl⟩, b, o, h9, h10⟩ := hv
  have h4' := h4
  obtain ⟨a3, c3, rfl, ⟨hc3, hl3⟩, _⟩ := h4'
  have h5' := h5
  obtain ⟨a4, c4, rfl, ⟨hc4, hl4⟩, _⟩ := h5'
  obtain ⟨a5, c5, rfl, ⟨hc5, hl5⟩, _⟩ := h6
  have hF := Lib.hid (fun w' (hb : Below w.heap.size w w') => floats2_c K _ f w' ((FloatsAt.toIn h4).keep (keeps_of_below (hb.mono hK))))
  have hE := Lib.hid (fun w' (hb : Below w.heap.size w w') => ints2_c K _ e w' ((IntsAt.toIn h5).keep (keeps_of_below (hb.mono hK))))
  clear h5 h4 h9 h10 h1 h2 h3
  generalize f.length = nf at *
  generalize e.length = ne at *
  generalize ee.length = nee at *
  generalize kids.length = nk at *
  go_enter Tryz.func19, Tryz.ntmps19
  go_upto_region 1 with fail
  have hbx : Below w.heap.size w (w.alloc (.cells #[.int .i64 3, .int .i64 l, .int .i64 s, .slice a3 nf c3, .slice a4 ne c4, .slice a5 nee c5, .slice ao nk c] 27)) := (Below.refl _ _).alloc (Nat.le_refl _) _
  have hsx : (w.alloc (.cells #[.int .i64 3, .int .i64 l, .int .i64 s, .slice a3 nf c3, .slice a4 ne c4, .slice a5 nee c5, .slice ao nk c] 27)).heap.size = w.heap.size + 1 := World.size_alloc ..
  have hcx : CellsAt (w.alloc (.cells #[.int .i64 3, .int .i64 l, .int .i64 s, .slice a3 nf c3, .slice a4 ne c4, .slice a5 nee c5, .slice ao nk c] 27)) w.heap.size 0 [.int .i64 3, .int .i64 l, .int .i64 s, .slice a3 nf c3, .slice a4 ne c4, .slice a5 nee c5, .slice ao nk c] := by
    intro j hj
    rw [Nat.zero_add, World.cell?_alloc_new, List.getD_eq_getElem?_getD, List.getElem?_eq_getElem hj]
    simp
  generalize w.alloc (.cells #[.int .i64 3, .int .i64 l, .int .i64 s, .slice a3 nf c3, .slice a4 ne c4, .slice a5 nee c5, .slice ao nk c] 27) = w1 at *
  obtain ⟨x0, x1, x2, x3, x4, x5, x6⟩ := seven_cells hcx
  have Hcx := Lib.hid hcx
  have Hbx := Lib.hid hbx
  have Hsx := Lib.hid hsx
  clear hcx hbx hsx x0 x2 x4 x5 x6
  have X1 := Lib.hid x1
  go_cut [3, 4] (fun s3 s4 wx => s3 = .int .i64 l ∧ (∃ a m, s4 = .slice a nf m ∧ FloatsIn (fun b => w.heap.size ≤ b ∧ b < wx.heap.size) wx (.slice a nf m) f) ∧ Below (w.heap.size + 1) w1 wx)
  case first =>
    go_region_with (go_at_call 27; go_loud (refine (hF.out _ (by first | exact Hbx.out | exact Hbx.out.drew | exact below_drewN Hbx.out _)).mono ?_); try simp only [and_imp, forall_exists_index]; rintro e w2 a2 m2 rfl hfl2 hb2; have y1 : w2.cell? ⟨w.heap.size, 1, none⟩ = some (.int .i64 l) := ((keeps_of_below hb2).cell (by have := Hsx.out; simp; omega) X1.out))
    all_goals
      go_wp2
      go_meet
      case rel => exact ⟨rfl, ⟨_, _, rfl, hfl2.mono (fun b hb => ⟨by have := Hsx.out; have := hb.1; simp at this; omega, hb.2⟩)⟩, ((Below.refl _ w1).drew).trans (hb2.mono (by have := Hsx.out; simp; omega))⟩
  case rest =>
    obtain ⟨rfl, ⟨a, m, rfl, hfl⟩, hb1⟩ := hcut
    have hszc : w.heap.size + 1 ≤ wc.heap.size := by have := hb1.size; have := Hsx.out; omega
    have hlt : w.heap.size < wc.heap.size := by omega
    have z0 : wc.cell? ⟨w.heap.size, 0, none⟩ = some (.int .i64 3) := (keeps_of_below hb1).cell (Nat.lt_succ_self _) (seven_cells Hcx.out).1
    have z2 : wc.cell? ⟨w.heap.size, 2, none⟩ = some (.int .i64 s) := (keeps_of_below hb1).cell (Nat.lt_succ_self _) (seven_cells Hcx.out).2.2.1
    have z4 : wc.cell? ⟨w.heap.size, 4, none⟩ = some (.slice a4 ne c4) := (keeps_of_below hb1).cell (Nat.lt_succ_self _) (seven_cells Hcx.out).2.2.2.2.1
    have Hbw := Lib.hid (Hbx.out.trans (hb1.mono (Nat.le_succ _)))
    have Z2 := Lib.hid z2
    have Hfl := Lib.hid hfl
    have Hb1 := Lib.hid hb1
    have Hl := Lib.hid hl
    clear hfl hb1 x1 x3 hl
    go_wp2_with fail
    go_region_with (first | (go_at_call 35; refine (hE.out _ (by first | exact Hbw.out | exact Hbw.out.drew)).mono ?_; try simp only [and_imp, forall_exists_index]; rintro e2 w2 ae me rfl hne hie hb2; have y2 : w2.cell? ⟨w.heap.size, 2, none⟩ = some (.int .i64 s) := ((keeps_of_below hb2).cell (by simp; omega) Z2.out); have hlt2 : w.heap.size < w2.heap.size := Nat.lt_of_lt_of_le hlt hb2.size) | (go_at_call 34; refine (polyNew_c l Hl.out _ _ _ _ _ _ _).mono ?_; rintro e3 w3 ⟨rfl, rfl⟩) | (go_at_call 36; refine (polySrid_c _ s (.int .i64 0) _ (by first | exact newCell rfl | exact newCellD rfl) (by first | exact newFrozen | exact newFrozenD)).mono ?_; rintro e4 w4 ⟨rfl, rfl⟩))
    all_goals
      go_wp2
      go_ret
      have hb2' : Below wc.heap.size wc w2 := by first | exact hb2 | exact ((Below.refl _ wc).drew).trans hb2
      exact ⟨w2.heap.size, rfl, objLeaf_new' (wx := w2) (k := 3) (l := l) (cs := #[.int .i64 l, .int .i64 (strideF l), .slice a nf m, .int .i64 s, .slice ae ne me]) (T := 110) (by decide) (by omega) rfl rfl rfl (floats_up Hfl.out hb2') (fun _ => ⟨_, rfl, hie.mono (fun b hb => ⟨by have := hb.1; simp at this; omega, hb.2⟩)⟩) (fun hh => absurd hh (by decide)), below_step' Hbx.out Hb1.out hb2' (by omega) _ _⟩
end Go.Proofs.YtfbgnonnbcejkaaGreatDoor
namespace Go.Proofs.YtfbgnonnbcejkaaGreatDoor
open Go.RowKit
set_option maxHeartbeats 3200000 in
set_option maxRecDepth 100000 in
theorem geometry5_c (K : Nat) (w : World) (l s : Int) (f : List Nat) (e : List Int) (ee : List (List Int)) (kids : List Geo) (vs : List Value) (hv : GeoVs K w vs (.mk 5 l s f e ee kids)) (hK : K ≤ w.heap.size) (hl : 0 ≤ l) :
    Calls Tryz.prog 19 #[.agg vs.toArray] w fun en w' => ∃ bo, en = .returned (.iface 78 (.pointer (some ⟨bo, 0, none⟩))) ∧ ObjAt (fun b => w.heap.size ≤ b ∧ b < w'.heap.size) w' (.iface 78 (.pointer (some ⟨bo, 0, none⟩))) (.mk 5 l s f e ee kids) ∧ Below w.heap.size w w' := by
  obtain ⟨vf, ve, vee, vk, rfl, h1, h2, h3, h4, h5, h6, ao, c, rfl, ⟨h8, hkl⟩, b, o, h9, h10⟩ := hv
  have h4' := h4
  obtain ⟨a3, c3, rfl, ⟨hc3, hl3⟩, _⟩ := h4'
  have h5' := h5
  obtain ⟨a4, c4, rfl, ⟨hc4, hl4⟩, _⟩ := h5'
  obtain ⟨a5, c5, rfl, ⟨hc5, hl5⟩, _⟩ := h6
  have hF := Lib.hid (fun w' (hb : Below w.heap.size w w') => floats2_c K _ f w' ((FloatsAt.toIn h4).keep (keeps_of_below (hb.mono hK))))
  have hE := Lib.hid (fun w' (hb : Below w.heap.size w w') => ints2_c K _ e w' ((IntsAt.toIn h5).keep (keeps_of_below (hb.mono hK))))
  clear h5 h4 h9 h10 h1 h2 h3
  generalize f.length = nf at *
  generalize e.length = ne at *
  generalize ee.length = nee at *
  generalize kids.length = nk at *
  go_enter Tryz.func19, Tryz.ntmps19
  go_upto_region 1 with fail
  have hbx : Below w.heap.size w (w.alloc (.cells #[.int .i64 5, .int .i64 l, .int .i64 s, .slice a3 nf c3, .slice a4 ne c4, .slice a5 nee c5, .slice ao nk c] 27)) := (Below.refl _ _).alloc (Nat.le_refl _) _
  have hsx : (w.alloc (.cells #[.int .i64 5, .int .i64 l, .int .i64 s, .slice a3 nf c3, .slice a4 ne c4, .slice a5 nee c5, .slice ao nk c] 27)).heap.size = w.heap.size + 1 := World.size_alloc ..
  have hcx : CellsAt (w.alloc (.cells #[.int .i64 5, .int .i64 l, .int .i64 s, .slice a3 nf c3, .slice a4 ne c4, .slice a5 nee c5, .slice ao nk c] 27)) w.heap.size 0 [.int .i64 5, .int .i64 l, .int .i64 s, .slice a3 nf c3, .slice a4 ne c4, .slice a5 nee c5, .slice ao nk c] := by
    intro j hj
    rw [Nat.zero_add, World.cell?_alloc_new, List.getD_eq_getElem?_getD, List.getElem?_eq_getElem hj]
    simp
  generalize w.alloc (.cells #[.int .i64 5, .int .i64 l, .int .i64 s, .slice a3 nf c3, .slice a4 ne c4, .slice a5 nee c5, .slice ao nk c] 27) = w1 at *
  obtain ⟨x0, x1, x2, x3, x4, x5, x6⟩ := seven_cells hcx
  have Hcx := Lib.hid hcx
  have Hbx := Lib.hid hbx
  have Hsx := Lib.hid hsx
  clear hcx hbx hsx x0 x2 x4 x5 x6
  have X1 := Lib.hid x1
  go_cut [3, 4] (fun s3 s4 wx => s3 = .int .i64 l ∧ (∃ a m, s4 = .slice a nf m ∧ FloatsIn (fun b => w.heap.size ≤ b ∧ b < wx.heap.size) wx (.slice a nf m) f) ∧ Below (w.heap.size + 1) w1 wx)
  case first =>
    go_region_with (go_at_call 27; go_loud (refine (hF.out _ (by first | exact Hbx.out | exact Hbx.out.drew | exact below_drewN Hbx.out _)).mono ?_); try simp only [and_imp, forall_exists_index]; rintro e w2 a2 m2 rfl hfl2 hb2; have y1 : w2.cell? ⟨w.heap.size, 1, none⟩ = some (.int .i64 l) := ((keeps_of_below hb2).cell (by have := Hsx.out; simp; omega) X1.out))
    all_goals
      go_wp2
      go_meet
      case rel => exact ⟨rfl, ⟨_, _, rfl, hfl2.mono (fun b hb => ⟨by have := Hsx.out; have := hb.1; simp at this; omega, hb.2⟩)⟩, ((Below.refl _ w1).drew).trans (hb2.mono (by have := Hsx.out; simp; omega))⟩
  case rest =>
    obtain ⟨rfl, ⟨a, m, rfl, hfl⟩, hb1⟩ := hcut
    have hszc : w.heap.size + 1 ≤ wc.heap.size := by have := hb1.size; have := Hsx.out; omega
    have hlt : w.heap.size < wc.heap.size := by omega
    have z0 : wc.cell? ⟨w.heap.size, 0, none⟩ = some (.int .i64 5) := (keeps_of_below hb1).cell (Nat.lt_succ_self _) (seven_cells Hcx.out).1
    have z2 : wc.cell? ⟨w.heap.size, 2, none⟩ = some (.int .i64 s) := (keeps_of_below hb1).cell (Nat.lt_succ_self _) (seven_cells Hcx.out).2.2.1
    have z4 : wc.cell? ⟨w.heap.size, 4, none⟩ = some (.slice a4 ne c4) := (keeps_of_below hb1).cell (Nat.lt_succ_self _) (seven_cells Hcx.out).2.2.2.2.1
    have Hbw := Lib.hid (Hbx.out.trans (hb1.mono (Nat.le_succ _)))
    have Z2 := Lib.hid z2
    have Hfl := Lib.hid hfl
    have Hb1 := Lib.hid hb1
    have Hl := Lib.hid hl
    clear hfl hb1 x1 x3 hl
    go_wp2_with fail
    go_region_with (first | (go_at_call 35; refine (hE.out _ (by first | exact Hbw.out | exact Hbw.out.drew)).mono ?_; try simp only [and_imp, forall_exists_index]; rintro e2 w2 ae me rfl hne hie hb2; have y2 : w2.cell? ⟨w.heap.size, 2, none⟩ = some (.int .i64 s) := ((keeps_of_below hb2).cell (by simp; omega) Z2.out); have hlt2 : w.heap.size < w2.heap.size := Nat.lt_of_lt_of_le hlt hb2.size) | (go_at_call 40; refine (mlineNew_c l Hl.out _ _ _ _ _ _ _).mono ?_; rintro e3 w3 ⟨rfl, rfl⟩) | (go_at_call 41; refine (mlineSrid_c _ s (.int .i64 0) _ (by first | exact newCell rfl | exact newCellD rfl) (by first | exact newFrozen | exact newFrozenD)).mono ?_; rintro e4 w4 ⟨rfl, rfl⟩))
    all_goals
      go_wp2
      go_ret
      have hb2' : Below wc.heap.size wc w2 := by first | exact hb2 | exact ((Below.refl _ wc).drew).trans hb2
      exact ⟨w2.heap.size, rfl, objLeaf_new' (wx := w2) (k := 5) (l := l) (cs := #[.int .i64 l, .int .i64 (strideF l), .slice a nf m, .int .i64 s, .slice ae ne me]) (T := 113) (by decide) (by omega) rfl rfl rfl (floats_up Hfl.out hb2') (fun _ => ⟨_, rfl, hie.mono (fun b hb => ⟨by have := hb.1; simp at this; omega, hb.2⟩)⟩) (fun hh => absurd hh (by decide)), below_step' Hbx.out Hb1.out hb2' (by omega) _ _⟩
end Go.Proofs.YtfbgnonnbcejkaaGreatDoor
namespace Go.Proofs.YtfbgnonnbcejkaaGreatDoor
open Go.RowKit
set_option maxHeartbeats 3200000 in
set_option maxRecDepth 100000 in
theorem geometry6_c (K : Nat) (w : World) (l s : Int) (f : List Nat) (e : List Int) (ee : List (List Int)) (kids : List Geo) (vs : List Value) (hv : GeoVs K w vs (.mk 6 l s f e ee kids)) (hK : K ≤ w.heap.size) (hl : 0 ≤ l) :
    Calls Tryz.prog 19 #[.agg vs.toArray] w fun en w' => ∃ bo, en = .returned (.iface 81 (.pointer (some ⟨bo, 0, none⟩))) ∧ ObjAt (fun b => w.heap.size ≤ b ∧ b < w'.heap.size) w' (.iface 81 (.pointer (some ⟨bo, 0, none⟩))) (.mk 6 l s f e ee kids) ∧ Below w.heap.size w w' := by
  obtain ⟨vf, ve, vee, vk, rfl, h1, h2, h3, h4, h5, h6, ao, c, rfl, ⟨h8, hkl⟩, b, o, h9, h10⟩ := hv
  have h4' := h4
  obtain ⟨a3, c3, rfl, ⟨hc3, hl3⟩, _⟩ := h4'
  obtain ⟨a4, c4, rfl, ⟨hc4, hl4⟩, _⟩ := h5
  have h6' := h6
  obtain ⟨a5, c5, rfl, ⟨hc5, hl5⟩, _⟩ := h6'
  have hF := Lib.hid (fun w' (hb : Below w.heap.size w w') => floats2_c K _ f w' ((FloatsAt.toIn h4).keep (keeps_of_below (hb.mono hK))))
  have hE := Lib.hid (fun w' (hb : Below w.heap.size w w') => intss2_c K _ ee w' ((IntssAt.toIn h6).keep (keeps_of_below (hb.mono hK))) (Nat.le_trans hK hb.size))
  clear h6 h4 h9 h10 h1 h2 h3
  generalize f.length = nf at *
  generalize e.length = ne at *
  generalize ee.length = nee at *
  generalize kids.length = nk at *
  go_enter Tryz.func19, Tryz.ntmps19
  go_upto_region 1 with fail
  have hbx : Below w.heap.size w (w.alloc (.cells #[.int .i64 6, .int .i64 l, .int .i64 s, .slice a3 nf c3, .slice a4 ne c4, .slice a5 nee c5, .slice ao nk c] 27)) := (Below.refl _ _).alloc (Nat.le_refl _) _
  have hsx : (w.alloc (.cells #[.int .i64 6, .int .i64 l, .int .i64 s, .slice a3 nf c3, .slice a4 ne c4, .slice a5 nee c5, .slice ao nk c] 27)).heap.size = w.heap.size + 1 := World.size_alloc ..
  have hcx : CellsAt (w.alloc (.cells #[.int .i64 6, .int .i64 l, .int .i64 s, .slice a3 nf c3, .slice a4 ne c4, .slice a5 nee c5, .slice ao nk c] 27)) w.heap.size 0 [.int .i64 6, .int .i64 l, .int .i64 s, .slice a3 nf c3, .slice a4 ne c4, .slice a5 nee c5, .slice ao nk c] := by
    intro j hj
    rw [Nat.zero_add, World.cell?_alloc_new, List.getD_eq_getElem?_getD, List.getElem?_eq_getElem hj]
    simp
  generalize w.alloc (.cells #[.int .i64 6, .int .i64 l, .int .i64 s, .slice a3 nf c3, .slice a4 ne c4, .slice a5 nee c5, .slice ao nk c] 27) = w1 at *
  obtain ⟨x0, x1, x2, x3, x4, x5, x6⟩ := seven_cells hcx
  have Hcx := Lib.hid hcx
  have Hbx := Lib.hid hbx
  have Hsx := Lib.hid hsx
  clear hcx hbx hsx x0 x2 x4 x5 x6
  have X1 := Lib.hid x1
  go_cut [3, 4] (fun s3 s4 wx => s3 = .int .i64 l ∧ (∃ a m, s4 = .slice a nf m ∧ FloatsIn (fun b => w.heap.size ≤ b ∧ b < wx.heap.size) wx (.slice a nf m) f) ∧ Below (w.heap.size + 1) w1 wx)
  case first =>
    go_region_with (go_at_call 27; go_loud (refine (hF.out _ (by first | exact Hbx.out | exact Hbx.out.drew | exact below_drewN Hbx.out _)).mono ?_); try simp only [and_imp, forall_exists_index]; rintro e w2 a2 m2 rfl hfl2 hb2; have y1 : w2.cell? ⟨w.heap.size, 1, none⟩ = some (.int .i64 l) := ((keeps_of_below hb2).cell (by have := Hsx.out; simp; omega) X1.out))
    all_goals
      go_wp2
      go_meet
      case rel => exact ⟨rfl, ⟨_, _, rfl, hfl2.mono (fun b hb => ⟨by have := Hsx.out; have := hb.1; simp at this; omega, hb.2⟩)⟩, ((Below.refl _ w1).drew).trans (hb2.mono (by have := Hsx.out; simp; omega))⟩
  case rest =>
    obtain ⟨rfl, ⟨a, m, rfl, hfl⟩, hb1⟩ := hcut
    have hszc : w.heap.size + 1 ≤ wc.heap.size := by have := hb1.size; have := Hsx.out; omega
    have hlt : w.heap.size < wc.heap.size := by omega
    have z0 : wc.cell? ⟨w.heap.size, 0, none⟩ = some (.int .i64 6) := (keeps_of_below hb1).cell (Nat.lt_succ_self _) (seven_cells Hcx.out).1
    have z2 : wc.cell? ⟨w.heap.size, 2, none⟩ = some (.int .i64 s) := (keeps_of_below hb1).cell (Nat.lt_succ_self _) (seven_cells Hcx.out).2.2.1
    have z4 : wc.cell? ⟨w.heap.size, 5, none⟩ = some (.slice a5 nee c5) := (keeps_of_below hb1).cell (Nat.lt_succ_self _) (seven_cells Hcx.out).2.2.2.2.2.1
    have Hbw := Lib.hid (Hbx.out.trans (hb1.mono (Nat.le_succ _)))
    have Z2 := Lib.hid z2
    have Hfl := Lib.hid hfl
    have Hb1 := Lib.hid hb1
    have Hl := Lib.hid hl
    clear hfl hb1 x1 x3 hl
    go_wp2_with fail
    go_region_with (first | (go_at_call 43; refine (hE.out _ (by first | exact Hbw.out | exact Hbw.out.drew)).mono ?_; try simp only [and_imp, forall_exists_index]; rintro e2 w2 ae me rfl hie hb2; have y2 : w2.cell? ⟨w.heap.size, 2, none⟩ = some (.int .i64 s) := ((keeps_of_below hb2).cell (by simp; omega) Z2.out); have hlt2 : w.heap.size < w2.heap.size := Nat.lt_of_lt_of_le hlt hb2.size) | (go_at_call 42; refine (mpolyNew_c l Hl.out _ _ _ _ _ _ _).mono ?_; rintro e3 w3 ⟨rfl, rfl⟩) | (go_at_call 44; refine (mpolySrid_c _ s (.int .i64 0) _ (by first | exact newCell rfl | exact newCellD rfl) (by first | exact newFrozen | exact newFrozenD)).mono ?_; rintro e4 w4 ⟨rfl, rfl⟩))
    all_goals
      go_wp2
      go_ret
      have hb2' : Below wc.heap.size wc w2 := by first | exact hb2 | exact ((Below.refl _ wc).drew).trans hb2
      exact ⟨w2.heap.size, rfl, objLeaf_new' (wx := w2) (k := 6) (l := l) (cs := #[.int .i64 l, .int .i64 (strideF l), .slice a nf m, .int .i64 s, .slice ae nee me]) (T := 117) (by decide) (by omega) rfl rfl rfl (floats_up Hfl.out hb2') (fun hh => absurd hh (by decide)) (fun _ => ⟨_, rfl, hie.mono (fun b hb => ⟨by have := hb.1; simp at this; omega, hb.2⟩)⟩), below_step' Hbx.out Hb1.out hb2' (by omega) _ _⟩
end Go.Proofs.YtfbgnonnbcejkaaGreatDoor
