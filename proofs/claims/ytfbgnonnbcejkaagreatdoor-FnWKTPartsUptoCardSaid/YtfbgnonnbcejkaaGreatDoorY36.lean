/- Lemmas on the way to the law FnWKTParts, without conditions beside those that each states: geometry: kind 1 | geometry: kind 2 | geometry: kind 8. -/
import Derived.Test.YtfbgnonnbcejkaaGreatDoorY15
namespace Go.Proofs.YtfbgnonnbcejkaaGreatDoor
open Go.RowKit
set_option maxHeartbeats 3200000 in
set_option maxRecDepth 100000 in
theorem geometry1_c (K : Nat) (w : World) (l s : Int) (f : List Nat) (e : List Int) (ee : List (List Int)) (kids : List Geo) (vs : List Value) (hv : GeoVs K w vs (.mk 1 l s f e ee kids)) (hK : K ≤ w.heap.size) (hl : 0 ≤ l) :
    Calls Tryz.prog 19 #[.agg vs.toArray] w fun en w' => ∃ bo, en = .returned (.iface 59 (.pointer (some ⟨bo, 0, none⟩))) ∧ ObjAt (fun b => w.heap.size ≤ b ∧ b < w'.heap.size) w' (.iface 59 (.pointer (some ⟨bo, 0, none⟩))) (.mk 1 l s f e ee kids) ∧ Below w.heap.size w w' := by
  obtain ⟨vf, ve, vee, vk, rfl, h1, h2, h3, h4, h5, h6, ao, c, rfl, ⟨h8, hkl⟩, b, o, h9, h10⟩ := hv
  have h4' := h4
  obtain ⟨a3, c3, rfl, ⟨hc3, hl3⟩, _⟩ := h4'
  obtain ⟨a4, c4, rfl, ⟨hc4, hl4⟩, _⟩ := h5
  obtain ⟨a5, c5, rfl, ⟨hc5, hl5⟩, _⟩ := h6
  have hF := Lib.hid (fun w' (hb : Below w.heap.size w w') => floats2_c K _ f w' ((FloatsAt.toIn h4).keep (keeps_of_below (hb.mono hK))))
  clear h4 h9 h10 h1 h2 h3
  generalize f.length = nf at *
  generalize e.length = ne at *
  generalize ee.length = nee at *
  generalize kids.length = nk at *
  go_enter Tryz.func19, Tryz.ntmps19
  go_upto_region 1 with fail
  have hbx : Below w.heap.size w (w.alloc (.cells #[.int .i64 1, .int .i64 l, .int .i64 s, .slice a3 nf c3, .slice a4 ne c4, .slice a5 nee c5, .slice ao nk c] 27)) := (Below.refl _ _).alloc (Nat.le_refl _) _
  have hsx : (w.alloc (.cells #[.int .i64 1, .int .i64 l, .int .i64 s, .slice a3 nf c3, .slice a4 ne c4, .slice a5 nee c5, .slice ao nk c] 27)).heap.size = w.heap.size + 1 := World.size_alloc ..
  have hcx : CellsAt (w.alloc (.cells #[.int .i64 1, .int .i64 l, .int .i64 s, .slice a3 nf c3, .slice a4 ne c4, .slice a5 nee c5, .slice ao nk c] 27)) w.heap.size 0 [.int .i64 1, .int .i64 l, .int .i64 s, .slice a3 nf c3, .slice a4 ne c4, .slice a5 nee c5, .slice ao nk c] := by
    intro j hj
    rw [Nat.zero_add, World.cell?_alloc_new, List.getD_eq_getElem?_getD, List.getElem?_eq_getElem hj]
    simp
  generalize w.alloc (.cells #[.int .i64 1, .int .i64 l, .int .i64 s, .slice a3 nf c3, .slice a4 ne c4, .slice a5 nee c5, .slice ao nk c] 27) = w1 at *
  obtain ⟨x0, x1, x2, x3, x4, x5, x6⟩ := seven_cells hcx
  have Hcx := Lib.hid hcx
  have Hbx := Lib.hid hbx
  have Hsx := Lib.hid hsx
  clear hcx hbx hsx x0 x2 x4 x5 x6
  have X1 := Lib.hid x1
  go_cut [3, 4] (fun s3 s4 wx => s3 = .int .i64 l ∧ (∃ a m, s4 = .slice a nf m ∧ FloatsIn (fun b => w.heap.size ≤ b ∧ b < wx.heap.size) wx (.slice a nf m) f) ∧ Below (w.heap.size + 1) w1 wx)
  case first =>
    go_region_with (go_at_call 27; go_loud (refine (hF.out _ (by first | exact Hbx.out | exact Hbx.out.drew | exact below_drewN Hbx.out _)).mono ?_); try simp only [and_imp, forall_exists_index]; rintro e w2 a2 m2 rfl hfl2 hb2; have y1 : w2.cell? ⟨w.heap.size, 1, none⟩ = some (.int .i64 l) := ((keeps_of_below hb2).cell (by have := Hsx.out; simp; omega) X1.out))
    all_goals
      go_wp2
      go_meet
      case rel => exact ⟨rfl, ⟨_, _, rfl, hfl2.mono (fun b hb => ⟨by have := Hsx.out; have := hb.1; simp at this; omega, hb.2⟩)⟩, ((Below.refl _ w1).drew).trans (hb2.mono (by have := Hsx.out; simp; omega))⟩
  case rest =>
    obtain ⟨rfl, ⟨a, m, rfl, hfl⟩, hb1⟩ := hcut
    have hszc : w.heap.size + 1 ≤ wc.heap.size := by have := hb1.size; have := Hsx.out; omega
    have hlt : w.heap.size < wc.heap.size := by omega
    have z0 : wc.cell? ⟨w.heap.size, 0, none⟩ = some (.int .i64 1) := (keeps_of_below hb1).cell (Nat.lt_succ_self _) (seven_cells Hcx.out).1
    have z2 : wc.cell? ⟨w.heap.size, 2, none⟩ = some (.int .i64 s) := (keeps_of_below hb1).cell (Nat.lt_succ_self _) (seven_cells Hcx.out).2.2.1
    have hN := Lib.hid (fun w' => pointNew_c l hl a nf m w')
    have Hfl := Lib.hid hfl
    have Hb1 := Lib.hid hb1
    have Hl := Lib.hid hl
    clear hfl hb1 x1 x3 hl
    generalize hst : strideF l = st at *
    have Hst := Lib.hid hst
    clear hst
    go_wp2_with fail
    go_region_with (first | (go_at_call 28; refine (hN.out _).mono ?_; rintro e w3 ⟨rfl, rfl⟩) | (go_at_call 29; refine (pointSrid_c _ s (.int .i64 0) _ (by first | exact newCell rfl | exact newCellD rfl) (by first | exact newFrozen | exact newFrozenD)).mono ?_; rintro e w4 ⟨rfl, rfl⟩))
    all_goals
      go_wp2
      go_ret
      exact ⟨wc.heap.size, rfl, objLeaf_new (wx := wc) (k := 1) (l := l) (cs := #[.int .i64 l, .int .i64 st, .slice a nf m, .int .i64 s]) (T := 101) (by decide) (by omega) rfl (by rw [Hst.out]; rfl) rfl Hfl.out (fun hh => absurd hh (by decide)) (fun hh => absurd hh (by decide)), below_step Hbx.out Hb1.out _ _ (by omega)⟩
end Go.Proofs.YtfbgnonnbcejkaaGreatDoor
namespace Go.Proofs.YtfbgnonnbcejkaaGreatDoor
open Go.RowKit
set_option maxHeartbeats 3200000 in
set_option maxRecDepth 100000 in
theorem geometry2_c (K : Nat) (w : World) (l s : Int) (f : List Nat) (e : List Int) (ee : List (List Int)) (kids : List Geo) (vs : List Value) (hv : GeoVs K w vs (.mk 2 l s f e ee kids)) (hK : K ≤ w.heap.size) (hl : 0 ≤ l) :
    Calls Tryz.prog 19 #[.agg vs.toArray] w fun en w' => ∃ bo, en = .returned (.iface 62 (.pointer (some ⟨bo, 0, none⟩))) ∧ ObjAt (fun b => w.heap.size ≤ b ∧ b < w'.heap.size) w' (.iface 62 (.pointer (some ⟨bo, 0, none⟩))) (.mk 2 l s f e ee kids) ∧ Below w.heap.size w w' := by
  obtain ⟨vf, ve, vee, vk, rfl, h1, h2, h3, h4, h5, h6, ao, c, rfl, ⟨h8, hkl⟩, b, o, h9, h10⟩ := hv
  have h4' := h4
  obtain ⟨a3, c3, rfl, ⟨hc3, hl3⟩, _⟩ := h4'
  obtain ⟨a4, c4, rfl, ⟨hc4, hl4⟩, _⟩ := h5
  obtain ⟨a5, c5, rfl, ⟨hc5, hl5⟩, _⟩ := h6
  have hF := Lib.hid (fun w' (hb : Below w.heap.size w w') => floats2_c K _ f w' ((FloatsAt.toIn h4).keep (keeps_of_below (hb.mono hK))))
  clear h4 h9 h10 h1 h2 h3
  generalize f.length = nf at *
  generalize e.length = ne at *
  generalize ee.length = nee at *
  generalize kids.length = nk at *
  go_enter Tryz.func19, Tryz.ntmps19
  go_upto_region 1 with fail
  have hbx : Below w.heap.size w (w.alloc (.cells #[.int .i64 2, .int .i64 l, .int .i64 s, .slice a3 nf c3, .slice a4 ne c4, .slice a5 nee c5, .slice ao nk c] 27)) := (Below.refl _ _).alloc (Nat.le_refl _) _
  have hsx : (w.alloc (.cells #[.int .i64 2, .int .i64 l, .int .i64 s, .slice a3 nf c3, .slice a4 ne c4, .slice a5 nee c5, .slice ao nk c] 27)).heap.size = w.heap.size + 1 := World.size_alloc ..
  have hcx : CellsAt (w.alloc (.cells #[.int .i64 2, .int .i64 l, .int .i64 s, .slice a3 nf c3, .slice a4 ne c4, .slice a5 nee c5, .slice ao nk c] 27)) w.heap.size 0 [.int .i64 2, .int .i64 l, .int .i64 s, .slice a3 nf c3, .slice a4 ne c4, .slice a5 nee c5, .slice ao nk c] := by
    intro j hj
    rw [Nat.zero_add, World.cell?_alloc_new, List.getD_eq_getElem?_getD, List.getElem?_eq_getElem hj]
    simp
  generalize w.alloc (.cells #[.int .i64 2, .int .i64 l, .int .i64 s, .slice a3 nf c3, .slice a4 ne c4, .slice a5 nee c5, .slice ao nk c] 27) = w1 at *
  obtain ⟨x0, x1, x2, x3, x4, x5, x6⟩ := seven_cells hcx
  have Hcx := Lib.hid hcx
  have Hbx := Lib.hid hbx
  have Hsx := Lib.hid hsx
  clear hcx hbx hsx x0 x2 x4 x5 x6
  have X1 := Lib.hid x1
  go_cut [3, 4] (fun s3 s4 wx => s3 = .int .i64 l ∧ (∃ a m, s4 = .slice a nf m ∧ FloatsIn (fun b => w.heap.size ≤ b ∧ b < wx.heap.size) wx (.slice a nf m) f) ∧ Below (w.heap.size + 1) w1 wx)
  case first =>
    go_region_with (go_at_call 27; go_loud (refine (hF.out _ (by first | exact Hbx.out | exact Hbx.out.drew | exact below_drewN Hbx.out _)).mono ?_); try simp only [and_imp, forall_exists_index]; rintro e w2 a2 m2 rfl hfl2 hb2; have y1 : w2.cell? ⟨w.heap.size, 1, none⟩ = some (.int .i64 l) := ((keeps_of_below hb2).cell (by have := Hsx.out; simp; omega) X1.out))
    all_goals
      go_wp2
      go_meet
      case rel => exact ⟨rfl, ⟨_, _, rfl, hfl2.mono (fun b hb => ⟨by have := Hsx.out; have := hb.1; simp at this; omega, hb.2⟩)⟩, ((Below.refl _ w1).drew).trans (hb2.mono (by have := Hsx.out; simp; omega))⟩
  case rest =>
    obtain ⟨rfl, ⟨a, m, rfl, hfl⟩, hb1⟩ := hcut
    have hszc : w.heap.size + 1 ≤ wc.heap.size := by have := hb1.size; have := Hsx.out; omega
    have hlt : w.heap.size < wc.heap.size := by omega
    have z0 : wc.cell? ⟨w.heap.size, 0, none⟩ = some (.int .i64 2) := (keeps_of_below hb1).cell (Nat.lt_succ_self _) (seven_cells Hcx.out).1
    have z2 : wc.cell? ⟨w.heap.size, 2, none⟩ = some (.int .i64 s) := (keeps_of_below hb1).cell (Nat.lt_succ_self _) (seven_cells Hcx.out).2.2.1
    have hN := Lib.hid (fun w' => lineNew_c l hl a nf m w')
    have Hfl := Lib.hid hfl
    have Hb1 := Lib.hid hb1
    have Hl := Lib.hid hl
    clear hfl hb1 x1 x3 hl
    generalize hst : strideF l = st at *
    have Hst := Lib.hid hst
    clear hst
    go_wp2_with fail
    go_region_with (first | (go_at_call 30; refine (hN.out _).mono ?_; rintro e w3 ⟨rfl, rfl⟩) | (go_at_call 31; refine (lineSrid_c _ s (.int .i64 0) _ (by first | exact newCell rfl | exact newCellD rfl) (by first | exact newFrozen | exact newFrozenD)).mono ?_; rintro e w4 ⟨rfl, rfl⟩))
    all_goals
      go_wp2
      go_ret
      exact ⟨wc.heap.size, rfl, objLeaf_new (wx := wc) (k := 2) (l := l) (cs := #[.int .i64 l, .int .i64 st, .slice a nf m, .int .i64 s]) (T := 105) (by decide) (by omega) rfl (by rw [Hst.out]; rfl) rfl Hfl.out (fun hh => absurd hh (by decide)) (fun hh => absurd hh (by decide)), below_step Hbx.out Hb1.out _ _ (by omega)⟩
end Go.Proofs.YtfbgnonnbcejkaaGreatDoor
namespace Go.Proofs.YtfbgnonnbcejkaaGreatDoor
open Go.RowKit
set_option maxHeartbeats 3200000 in
set_option maxRecDepth 100000 in
theorem geometry8_c (K : Nat) (w : World) (l s : Int) (f : List Nat) (e : List Int) (ee : List (List Int)) (kids : List Geo) (vs : List Value) (hv : GeoVs K w vs (.mk 8 l s f e ee kids)) (hK : K ≤ w.heap.size) (hl : 0 ≤ l) :
    Calls Tryz.prog 19 #[.agg vs.toArray] w fun en w' => ∃ bo, en = .returned (.iface 65 (.pointer (some ⟨bo, 0, none⟩))) ∧ ObjAt (fun b => w.heap.size ≤ b ∧ b < w'.heap.size) w' (.iface 65 (.pointer (some ⟨bo, 0, none⟩))) (.mk 8 l s f e ee kids) ∧ Below w.heap.size w w' := by
  obtain ⟨vf, ve, vee, vk, rfl, h1, h2, h3, h4, h5, h6, ao, c, rfl, ⟨h8, hkl⟩, b, o, h9, h10⟩ := hv
  have h4' := h4
  obtain ⟨a3, c3, rfl, ⟨hc3, hl3⟩, _⟩ := h4'
  obtain ⟨a4, c4, rfl, ⟨hc4, hl4⟩, _⟩ := h5
  obtain ⟨a5, c5, rfl, ⟨hc5, hl5⟩, _⟩ := h6
  have hF := Lib.hid (fun w' (hb : Below w.heap.size w w') => floats2_c K _ f w' ((FloatsAt.toIn h4).keep (keeps_of_below (hb.mono hK))))
  clear h4 h9 h10 h1 h2 h3
  generalize f.length = nf at *
  generalize e.length = ne at *
  generalize ee.length = nee at *
  generalize kids.length = nk at *
  go_enter Tryz.func19, Tryz.ntmps19
  go_upto_region 1 with fail
  have hbx : Below w.heap.size w (w.alloc (.cells #[.int .i64 8, .int .i64 l, .int .i64 s, .slice a3 nf c3, .slice a4 ne c4, .slice a5 nee c5, .slice ao nk c] 27)) := (Below.refl _ _).alloc (Nat.le_refl _) _
  have hsx : (w.alloc (.cells #[.int .i64 8, .int .i64 l, .int .i64 s, .slice a3 nf c3, .slice a4 ne c4, .slice a5 nee c5, .slice ao nk c] 27)).heap.size = w.heap.size + 1 := World.size_alloc ..
  have hcx : CellsAt (w.alloc (.cells #[.int .i64 8, .int .i64 l, .int .i64 s, .slice a3 nf c3, .slice a4 ne c4, .slice a5 nee c5, .slice ao nk c] 27)) w.heap.size 0 [.int .i64 8, .int .i64 l, .int .i64 s, .slice a3 nf c3, .slice a4 ne c4, .slice a5 nee c5, .slice ao nk c] := by
    intro j hj
    rw [Nat.zero_add, World.cell?_alloc_new, List.getD_eq_getElem?_getD, List.getElem?_eq_getElem hj]
    simp
  generalize w.alloc (.cells #[.int .i64 8, .int .i64 l, .int .i64 s, .slice a3 nf c3, .slice a4 ne c4, .slice a5 nee c5, .slice ao nk c] 27) = w1 at *
  obtain ⟨x0, x1, x2, x3, x4, x5, x6⟩ := seven_cells hcx
  have Hcx := Lib.hid hcx
  have Hbx := Lib.hid hbx
  have Hsx := Lib.hid hsx
  clear hcx hbx hsx x0 x2 x4 x5 x6
  have X1 := Lib.hid x1
  go_cut [3, 4] (fun s3 s4 wx => s3 = .int .i64 l ∧ (∃ a m, s4 = .slice a nf m ∧ FloatsIn (fun b => w.heap.size ≤ b ∧ b < wx.heap.size) wx (.slice a nf m) f) ∧ Below (w.heap.size + 1) w1 wx)
  case first =>
    go_region_with (go_at_call 27; go_loud (refine (hF.out _ (by first | exact Hbx.out | exact Hbx.out.drew | exact below_drewN Hbx.out _)).mono ?_); try simp only [and_imp, forall_exists_index]; rintro e w2 a2 m2 rfl hfl2 hb2; have y1 : w2.cell? ⟨w.heap.size, 1, none⟩ = some (.int .i64 l) := ((keeps_of_below hb2).cell (by have := Hsx.out; simp; omega) X1.out))
    all_goals
      go_wp2
      go_meet
      case rel => exact ⟨rfl, ⟨_, _, rfl, hfl2.mono (fun b hb => ⟨by have := Hsx.out; have := hb.1; simp at this; omega, hb.2⟩)⟩, ((Below.refl _ w1).drew).trans (hb2.mono (by have := Hsx.out; simp; omega))⟩
  case rest =>
    obtain ⟨rfl, ⟨a, m, rfl, hfl⟩, hb1⟩ := hcut
    have hszc : w.heap.size + 1 ≤ wc.heap.size := by have := hb1.size; have := Hsx.out; omega
    have hlt : w.heap.size < wc.heap.size := by omega
    have z0 : wc.cell? ⟨w.heap.size, 0, none⟩ = some (.int .i64 8) := (keeps_of_below hb1).cell (Nat.lt_succ_self _) (seven_cells Hcx.out).1
    have z2 : wc.cell? ⟨w.heap.size, 2, none⟩ = some (.int .i64 s) := (keeps_of_below hb1).cell (Nat.lt_succ_self _) (seven_cells Hcx.out).2.2.1
    have hN := Lib.hid (fun w' => ringNew_c l hl a nf m w')
    have Hfl := Lib.hid hfl
    have Hb1 := Lib.hid hb1
    have Hl := Lib.hid hl
    clear hfl hb1 x1 x3 hl
    generalize hst : strideF l = st at *
    have Hst := Lib.hid hst
    clear hst
    go_wp2_with fail
    go_region_with (first | (go_at_call 32; refine (hN.out _).mono ?_; rintro e w3 ⟨rfl, rfl⟩) | (go_at_call 33; refine (ringSrid_c _ s (.int .i64 0) _ (by first | exact newCell rfl | exact newCellD rfl) (by first | exact newFrozen | exact newFrozenD)).mono ?_; rintro e w4 ⟨rfl, rfl⟩))
    all_goals
      go_wp2
      go_ret
      exact ⟨wc.heap.size, rfl, objLeaf_new (wx := wc) (k := 8) (l := l) (cs := #[.int .i64 l, .int .i64 st, .slice a nf m, .int .i64 s]) (T := 106) (by decide) (by omega) rfl (by rw [Hst.out]; rfl) rfl Hfl.out (fun hh => absurd hh (by decide)) (fun hh => absurd hh (by decide)), below_step Hbx.out Hb1.out _ _ (by omega)⟩
end Go.Proofs.YtfbgnonnbcejkaaGreatDoor
