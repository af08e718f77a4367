/- Lemmas on the way to the law FnWKTParts, without conditions beside those that each states: geometry: multi points. -/
import Derived.Test.YtfbgnonnbcejkaaGreatDoorY15
namespace Go.Proofs.YtfbgnonnbcejkaaGreatDoor
open Go.RowKit
theorem newCell2 {w : World} {o : Obj} {cs : Array Value} {T j : Nat} {v : Value} (h : cs[j]? = some v) : ((w.alloc o).alloc (.cells cs T)).cell? ⟨w.heap.size + 1, j, none⟩ = some v := by
  have := newCell (w := w.alloc o) (T := T) h
  rw [World.size_alloc] at this
  exact this
theorem oldCell2 {w : World} {o : Obj} {cs : Array Value} {T j : Nat} {v : Value} (h : cs[j]? = some v) : ((w.alloc (.cells cs T)).alloc o).cell? ⟨w.heap.size, j, none⟩ = some v :=
  (World.cell?_of_block (a := ⟨w.heap.size, j, none⟩) (((Below.refl (w.alloc (.cells cs T)).heap.size _).alloc (Nat.le_refl _) o).block w.heap.size (by rw [World.size_alloc]; exact Nat.lt_succ_self _))).trans (newCell h)
theorem newCell3 {w : World} {o p : Obj} {cs : Array Value} {T j : Nat} {v : Value} (h : cs[j]? = some v) : (((w.alloc o).alloc p).alloc (.cells cs T)).cell? ⟨w.heap.size + 1 + 1, j, none⟩ = some v := by
  have := newCell (w := (w.alloc o).alloc p) (T := T) h
  rw [World.size_alloc, World.size_alloc] at this
  exact this
theorem newFrozen3 {w : World} {o p : Obj} {cs : Array Value} {T j : Nat} : (((w.alloc o).alloc p).alloc (.cells cs T)).frozen? ⟨w.heap.size + 1 + 1, j, none⟩ = false := by
  have := newFrozen (w := (w.alloc o).alloc p) (cs := cs) (T := T) (j := j)
  rw [World.size_alloc, World.size_alloc] at this
  exact this

set_option maxHeartbeats 3200000 in
set_option maxRecDepth 100000 in
theorem geometry4_c (K : Nat) (w : World) (l s : Int) (f : List Nat) (e : List Int) (ee : List (List Int)) (kids : List Geo) (vs : List Value) (hv : GeoVs K w vs (.mk 4 l s f e ee kids)) (hK : K ≤ w.heap.size) (hl : 0 ≤ l) (hfe : e = [] → f = []) :
    Calls Tryz.prog 19 #[.agg vs.toArray] w fun en w' => ∃ bo, en = .returned (.iface 72 (.pointer (some ⟨bo, 0, none⟩))) ∧ ObjAt (fun b => w.heap.size ≤ b ∧ b < w'.heap.size) w' (.iface 72 (.pointer (some ⟨bo, 0, none⟩))) (.mk 4 l s f e ee kids) ∧ Below w.heap.size w w' := by
  obtain ⟨vf, ve, vee, vk, rfl, h1, h2, h3, h4, h5, h6, ao, c, rfl, ⟨h8, hkl⟩, b, o, h9, h10⟩ := hv
  have h4' := h4
  obtain ⟨a3, c3, rfl, ⟨hc3, hl3⟩, _⟩ := h4'
  have h5' := h5
  obtain ⟨a4, c4, rfl, ⟨hc4, hl4⟩, _⟩ := h5'
  obtain ⟨a5, c5, rfl, ⟨hc5, hl5⟩, _⟩ := h6
  have hF := Lib.hid (fun w' (hb : Below w.heap.size w w') => floats2_c K _ f w' ((FloatsAt.toIn h4).keep (keeps_of_below (hb.mono hK))))
  have hE := Lib.hid (fun w' (hb : Below w.heap.size w w') => ints2_c K _ e w' ((IntsAt.toIn h5).keep (keeps_of_below (hb.mono hK))))
  clear h5 h4 h9 h10 h1 h2 h3
  have hfe2 : e = [] → f.length = 0 := fun hh => by rw [hfe hh]; rfl
  clear hfe
  generalize f.length = nf at *
  have Hfe := Lib.hid hfe2
  clear hfe2
  generalize e.length = ne at *
  generalize ee.length = nee at *
  generalize kids.length = nk at *
  go_enter Tryz.func19, Tryz.ntmps19
  go_upto_region 1 with fail
  have hbx : Below w.heap.size w (w.alloc (.cells #[.int .i64 4, .int .i64 l, .int .i64 s, .slice a3 nf c3, .slice a4 ne c4, .slice a5 nee c5, .slice ao nk c] 27)) := (Below.refl _ _).alloc (Nat.le_refl _) _
  have hsx : (w.alloc (.cells #[.int .i64 4, .int .i64 l, .int .i64 s, .slice a3 nf c3, .slice a4 ne c4, .slice a5 nee c5, .slice ao nk c] 27)).heap.size = w.heap.size + 1 := World.size_alloc ..
  have hcx : CellsAt (w.alloc (.cells #[.int .i64 4, .int .i64 l, .int .i64 s, .slice a3 nf c3, .slice a4 ne c4, .slice a5 nee c5, .slice ao nk c] 27)) w.heap.size 0 [.int .i64 4, .int .i64 l, .int .i64 s, .slice a3 nf c3, .slice a4 ne c4, .slice a5 nee c5, .slice ao nk c] := by
    intro j hj
    rw [Nat.zero_add, World.cell?_alloc_new, List.getD_eq_getElem?_getD, List.getElem?_eq_getElem hj]
    simp
  generalize w.alloc (.cells #[.int .i64 4, .int .i64 l, .int .i64 s, .slice a3 nf c3, .slice a4 ne c4, .slice a5 nee c5, .slice ao nk c] 27) = w1 at *
  obtain ⟨x0, x1, x2, x3, x4, x5, x6⟩ := seven_cells hcx
  have Hcx := Lib.hid hcx
  have Hbx := Lib.hid hbx
  have Hsx := Lib.hid hsx
  clear hcx hbx hsx x0 x2 x4 x5 x6
  have X1 := Lib.hid x1
  go_cut [3, 4] (fun s3 s4 wx => s3 = .int .i64 l ∧ (∃ a m, s4 = .slice a nf m ∧ FloatsIn (fun b => w.heap.size ≤ b ∧ b < wx.heap.size) wx (.slice a nf m) f) ∧ Below (w.heap.size + 1) w1 wx)
  case first =>
    go_region_with (go_at_call 27; go_loud (refine (hF.out _ (by first | exact Hbx.out | exact Hbx.out.drew | exact below_drewN Hbx.out _)).mono ?_); try simp only [and_imp, forall_exists_index]; rintro e w2 a2 m2 rfl hfl2 hb2; have y1 : w2.cell? ⟨w.heap.size, 1, none⟩ = some (.int .i64 l) := ((keeps_of_below hb2).cell (by have := Hsx.out; simp; omega) X1.out))
    all_goals
      go_wp2
      go_meet
      case rel => exact ⟨rfl, ⟨_, _, rfl, hfl2.mono (fun b hb => ⟨by have := Hsx.out; have := hb.1; simp at this; omega, hb.2⟩)⟩, ((Below.refl _ w1).drew).trans (hb2.mono (by have := Hsx.out; simp; omega))⟩
  case rest =>
    obtain ⟨rfl, ⟨a, m, rfl, hfl⟩, hb1⟩ := hcut
    have hszc : w.heap.size + 1 ≤ wc.heap.size := by have := hb1.size; have := Hsx.out; omega
    have hlt : w.heap.size < wc.heap.size := by omega
    have z0 : wc.cell? ⟨w.heap.size, 0, none⟩ = some (.int .i64 4) := (keeps_of_below hb1).cell (Nat.lt_succ_self _) (seven_cells Hcx.out).1
    have z2 : wc.cell? ⟨w.heap.size, 2, none⟩ = some (.int .i64 s) := (keeps_of_below hb1).cell (Nat.lt_succ_self _) (seven_cells Hcx.out).2.2.1
    have z4 : wc.cell? ⟨w.heap.size, 4, none⟩ = some (.slice a4 ne c4) := (keeps_of_below hb1).cell (Nat.lt_succ_self _) (seven_cells Hcx.out).2.2.2.2.1
    have Hbw := Lib.hid (Hbx.out.trans (hb1.mono (Nat.le_succ _)))
    have Z2 := Lib.hid z2
    have Hfl := Lib.hid hfl
    have Hb1 := Lib.hid hb1
    have Hl := Lib.hid hl
    clear hfl hb1 x1 x3 hl
    go_wp2_with fail
    go_region_with (first | (go_at_call 35; refine (hE.out _ (by first | exact Hbw.out | exact Hbw.out.drew)).mono ?_; try simp only [and_imp, forall_exists_index]; rintro e2 w2 ae me rfl hne hie hb2; have y2 : w2.cell? ⟨w.heap.size, 2, none⟩ = some (.int .i64 s) := ((keeps_of_below hb2).cell (by simp; omega) Z2.out); have hlt2 : w.heap.size < w2.heap.size := Nat.lt_of_lt_of_le hlt hb2.size; have hlt3 : w.heap.size < w2.heap.size + 1 := Nat.lt_succ_of_lt hlt2; have hlt4 : w.heap.size < w2.heap.size + 1 + 1 := Nat.lt_succ_of_lt hlt3) | (go_at_call 38; refine (optEnds_c _ _ _ _).mono ?_; rintro e3 w3 ⟨rfl, rfl⟩) | (go_at_call 37; go_loud (refine (mpointNew_c l Hl.out a nf m ae ne me (w2.heap.size + 1) w2.heap.size (fun hh => Hfe.out (hne hh)) _ (newCell2 rfl) (oldCell2 rfl) (by rw [World.size_alloc, World.size_alloc]; omega) (by rw [World.size_alloc, World.size_alloc]; omega)).mono ?_); rintro e5 w5 ⟨rfl, rfl⟩) | (go_at_call 39; go_loud (refine (mpointSrid_c _ s (.int .i64 0) _ (by first | exact newCell rfl | exact newCellD rfl | exact newCell3 rfl) (by first | exact newFrozen | exact newFrozenD | exact newFrozen3)).mono ?_); rintro e4 w4 ⟨rfl, rfl⟩))
    all_goals
      go_wp2
      go_ret
      have hb2' : Below wc.heap.size wc w2 := by first | exact hb2 | exact ((Below.refl _ wc).drew).trans hb2
      have hq2 : Below w2.heap.size w2 ((w2.alloc (.cells #[.slice ae ne me] 23)).alloc (.cells #[.func (.func 53) #[] #[.pointer (some ⟨w2.heap.size, 0, none⟩)]] 75)) := ((Below.refl _ w2).alloc (Nat.le_refl _) _).alloc (by rw [World.size_alloc]; omega) _
      have hwq : wc.heap.size ≤ w2.heap.size := hb2'.size
      have hsz : ((w2.alloc (.cells #[.slice ae ne me] 23)).alloc (.cells #[.func (.func 53) #[] #[.pointer (some ⟨w2.heap.size, 0, none⟩)]] 75)).heap.size = w2.heap.size + 1 + 1 := by rw [World.size_alloc, World.size_alloc]
      have hO := objLeaf_new' (wx := ((w2.alloc (.cells #[.slice ae ne me] 23)).alloc (.cells #[.func (.func 53) #[] #[.pointer (some ⟨w2.heap.size, 0, none⟩)]] 75))) (base := w.heap.size) (k := 4) (l := l) (s := s) (f := f) (e := e) (ee := ee) (kids := kids) (cs := #[.int .i64 l, .int .i64 (strideF l), .slice a nf m, .int .i64 s, .slice ae ne me]) (T := 112) (by decide) (by omega) rfl rfl rfl (floats_up (floats_up Hfl.out hb2') hq2) (fun _ => ⟨_, rfl, ints_up (hie.mono (fun b hb => ⟨by have := hb.1; simp at this; omega, hb.2⟩)) hq2⟩) (fun hh => absurd hh (by decide))
      rw [hsz] at hO
      exact ⟨w2.heap.size + 1 + 1, rfl, hO, below_step' Hbx.out Hb1.out (hb2'.trans (hq2.mono hwq)) (by omega) _ _⟩
end Go.Proofs.YtfbgnonnbcejkaaGreatDoor
