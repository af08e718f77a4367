/- Lemmas on the way to the law FnWKTParts, without conditions beside those that each states: geometry: collections; any good geometry | geometry: any good geometry. -/
import Derived.Test.YtfbgnonnbcejkaaGreatDoorY15
import Derived.Test.YtfbgnonnbcejkaaGreatDoorY10
import Derived.Test.YtfbgnonnbcejkaaGreatDoorY36
import Derived.Test.YtfbgnonnbcejkaaGreatDoorY37
import Derived.Test.YtfbgnonnbcejkaaGreatDoorY38
namespace Go.Proofs.YtfbgnonnbcejkaaGreatDoor
open Go.RowKit

def GeoOk (g : Geo) : Prop := goodF g = true → gLayF 4 g = true → ∀ (K : Nat) (w : World) (v : Value), GeoAt K w v g → K ≤ w.heap.size →
    Calls Tryz.prog 19 #[v] w fun en w' => ∃ bo, en = .returned (.iface (tidF g.kind) (.pointer (some ⟨bo, 0, none⟩))) ∧ ObjAt (fun b => w.heap.size ≤ b ∧ b < w'.heap.size) w' (.iface (tidF g.kind) (.pointer (some ⟨bo, 0, none⟩))) g ∧ Below w.heap.size w w'
theorem take_succ_kids (xs : List Geo) (k : Nat) (h : k < xs.length) : xs.take (k + 1) = xs.take k ++ [xs[k]] := by
  rw [List.take_add_one, List.getElem?_eq_getElem h]
  rfl
theorem coll_start {base : Nat} {w : World} (hb : base ≤ w.heap.size) (s : Int) : Coll base w.heap.size s ((w.alloc (.cells #[.int .i64 0, .slice none 0 0, .int .i64 s] 120)).drew) (.slice none 0 0) [] [] :=
  ⟨by show (w.alloc (.cells #[.int .i64 0, .slice none 0 0, .int .i64 s] 120)).heap[w.heap.size]? = _; exact heap_alloc_new w _, Gath.nil _ _ _ _ _, by simp [Value.ownBlock], hb⟩

set_option maxHeartbeats 6400000 in
set_option maxRecDepth 100000 in
theorem geometry7_c (l s : Int) (f : List Nat) (e : List Int) (ee : List (List Int)) (kids : List Geo) (ih : ∀ g ∈ kids, GeoOk g) : GeoOk (.mk 7 l s f e ee kids) := by
  intro hgood hlay K w v hga hK
  show Calls Tryz.prog 19 #[v] w fun en w' => ∃ bo, en = .returned (.iface 85 (.pointer (some ⟨bo, 0, none⟩))) ∧ ObjAt (fun b => w.heap.size ≤ b ∧ b < w'.heap.size) w' (.iface 85 (.pointer (some ⟨bo, 0, none⟩))) (.mk 7 l s f e ee kids) ∧ Below w.heap.size w w'
  obtain ⟨vs, rfl, hv⟩ := hga
  rw [goodF, if_pos rfl] at hgood
  rw [gLayF] at hlay
  simp only [Bool.and_eq_true, decide_eq_true_eq] at hgood hlay
  have Hgk := Lib.hid (goodAll_mem l kids hgood.1)
  have Hlk := Lib.hid (gLayAll_mem 4 kids hlay.1)
  have Hih := Lib.hid ih
  have hl0 : 0 ≤ l := hgood.2.1
  clear hgood hlay ih
  obtain ⟨vf, ve, vee, vk, rfl, h1, h2, h3, h4, h5, h6, ao, c, rfl, ⟨h8, hkl⟩, b, o, h9, h10⟩ := hv
  have h4' := h4
  obtain ⟨a3, c3, rfl, ⟨hc3, hl3⟩, _⟩ := h4'
  obtain ⟨a4, c4, rfl, ⟨hc4, hl4⟩, _⟩ := h5
  obtain ⟨a5, c5, rfl, ⟨hc5, hl5⟩, _⟩ := h6
  have hF := Lib.hid (fun w' (hb : Below w.heap.size w w') => floats2_c K _ f w' ((FloatsAt.toIn h4).keep (keeps_of_below (hb.mono hK))))
  have H9 := Lib.hid h9
  have Hg := Lib.hid h10
  clear h4 h9 h10 h1 h2 h3
  generalize f.length = nf at *
  generalize e.length = ne at *
  generalize ee.length = nee at *
  go_enter Tryz.func19, Tryz.ntmps19
  go_upto_region 1 with fail
  have hbx : Below w.heap.size w (w.alloc (.cells #[.int .i64 7, .int .i64 l, .int .i64 s, .slice a3 nf c3, .slice a4 ne c4, .slice a5 nee c5, .slice ao kids.length c] 27)) := (Below.refl _ _).alloc (Nat.le_refl _) _
  have hsx : (w.alloc (.cells #[.int .i64 7, .int .i64 l, .int .i64 s, .slice a3 nf c3, .slice a4 ne c4, .slice a5 nee c5, .slice ao kids.length c] 27)).heap.size = w.heap.size + 1 := World.size_alloc ..
  have hcx : CellsAt (w.alloc (.cells #[.int .i64 7, .int .i64 l, .int .i64 s, .slice a3 nf c3, .slice a4 ne c4, .slice a5 nee c5, .slice ao kids.length c] 27)) w.heap.size 0 [.int .i64 7, .int .i64 l, .int .i64 s, .slice a3 nf c3, .slice a4 ne c4, .slice a5 nee c5, .slice ao kids.length c] := by
    intro j hj
    rw [Nat.zero_add, World.cell?_alloc_new, List.getD_eq_getElem?_getD, List.getElem?_eq_getElem hj]
    simp
  generalize w.alloc (.cells #[.int .i64 7, .int .i64 l, .int .i64 s, .slice a3 nf c3, .slice a4 ne c4, .slice a5 nee c5, .slice ao kids.length c] 27) = w1 at *
  obtain ⟨x0, x1, x2, x3, x4, x5, x6⟩ := seven_cells hcx
  have Hcx := Lib.hid hcx
  have Hbx := Lib.hid hbx
  have Hsx := Lib.hid hsx
  clear hcx hbx hsx x0 x2 x4 x5 x6
  have X1 := Lib.hid x1
  go_cut [3, 4] (fun s3 s4 wx => s3 = .int .i64 l ∧ Below (w.heap.size + 1) w1 wx)
  case first =>
    go_region_with (go_at_call 27; refine (hF.out _ (by first | exact Hbx.out | exact Hbx.out.drew | exact below_drewN Hbx.out _)).mono ?_; try simp only [and_imp, forall_exists_index]; rintro e w2 a2 m2 rfl hfl2 hb2; have y1 : w2.cell? ⟨w.heap.size, 1, none⟩ = some (.int .i64 l) := ((keeps_of_below hb2).cell (by have := Hsx.out; simp; omega) X1.out))
    all_goals
      go_wp2
      go_meet
      case rel => exact ⟨rfl, ((Below.refl _ w1).drew).trans (hb2.mono (by have := Hsx.out; simp; omega))⟩
  case rest =>
    obtain ⟨rfl, hb1⟩ := hcut
    have hszc : w.heap.size + 1 ≤ wc.heap.size := by have := hb1.size; have := Hsx.out; omega
    have hlt : w.heap.size < wc.heap.size := by omega
    have z0 : wc.cell? ⟨w.heap.size, 0, none⟩ = some (.int .i64 7) := (keeps_of_below hb1).cell (Nat.lt_succ_self _) (seven_cells Hcx.out).1
    have z2 : wc.cell? ⟨w.heap.size, 2, none⟩ = some (.int .i64 s) := (keeps_of_below hb1).cell (Nat.lt_succ_self _) (seven_cells Hcx.out).2.2.1
    have Hb1 := Lib.hid hb1
    clear hb1 x1 x3
    go_upto_region 18 with fail
    obtain ⟨wd, rfl⟩ : ∃ x, x = wc := ⟨_, rfl⟩
    go_cut [5] (fun s5 wx => ∃ b0, s5 = .pointer (some ⟨b0, 0, none⟩) ∧ Coll (w.heap.size + 1) b0 s wx (.slice none 0 0) [] [] ∧ Below (w.heap.size + 1) w1 wx)
    case first =>
      go_region_with (first | (go_at_call 45; refine (collNew_c _).mono ?_; rintro e3 w3 ⟨rfl, rfl⟩) | (go_at_call 46; refine (collSrid_c _ s (.int .i64 0) _ (by first | exact newCell rfl | exact newCellD rfl) (by first | exact newFrozen | exact newFrozenD)).mono ?_; rintro e4 w4 ⟨rfl, rfl⟩))
      all_goals
        go_wp2
        go_meet
        case rel => exact ⟨_, rfl, coll_start hszc s, (Hb1.out.alloc hszc _).drew⟩
    case rest =>
      obtain ⟨b0, rfl, hcoll, hb2⟩ := hcut
      have z6 : wc.cell? ⟨w.heap.size, 6, none⟩ = some (.slice ao kids.length c) := (keeps_of_below hb2).cell (Nat.lt_succ_self _) (seven_cells Hcx.out).2.2.2.2.2.2
      have Hcoll := Lib.hid hcoll
      have Hb2 := Lib.hid hb2
      clear hcoll hb2 z0 z2
      go_wp2_with fail
      go_loopw [101] (fun i wr => ∃ (k : Nat) (vr : Value) (xs : List Value), k ≤ kids.length ∧ i = .int .i64 k ∧ Coll (w.heap.size + 1) b0 s wr vr (kids.take k) xs ∧ Below (w.heap.size + 1) w1 wr) (fun i _ => kids.length - (intOf i).toNat)
      case atStart => exact ⟨0, _, _, Nat.zero_le _, rfl, Hcoll.out, Hb2.out⟩
      case round =>
        obtain ⟨k, vr, xs, hk, rfl, hco, hb⟩ := hrel
        have hszr : w.heap.size + 1 ≤ wr.heap.size := by have := hb.size; have := Hsx.out; omega
        by_cases hkl2 : k < kids.length
        · obtain ⟨rfl, hbK⟩ := H9.out (by omega)
          have hget : kids[k]? = some kids[k] := List.getElem?_eq_getElem hkl2
          obtain ⟨us, hc, hu⟩ := GeosAt.get kids b o k _ (GeosAt.below ((Hbx.out.mono hK).trans (hb.mono (by omega))) kids b o hbK Hg.out) hget
          obtain ⟨q0, q1, q2, b3, b4, b5, b6, n3, n4, n5, n6, m3, m4, m5, m6, rfl⟩ := hu.seven
          obtain ⟨d0, d1, d2, d3, d4, d5, d6⟩ := seven_cells hc
          have hmem := List.getElem_mem hkl2
          have hC := Lib.hid (fun w' (hw' : Below wr.heap.size wr w') => Hih.out _ hmem (Hgk.out _ hmem).1 (Hlk.out _ hmem) K w' _ ⟨_, rfl, GeoVs.below (hw'.mono (by omega)) _ _ hu⟩ (by have := hw'.size; omega))
          have ht := take_succ_kids kids k hkl2
          have hlt2 : (kids.take k).length = k := by rw [List.length_take]; omega
          have Ht := Lib.hid ht
          have Hco := Lib.hid hco
          have Hb := Lib.hid hb
          clear ht hco hb hc hu hget hmem
          generalize kids[k] = kd at *
          generalize tidF kd.kind = td at *
          go_wp2_with (go_at_call 19; refine (hC.out _ (by first | exact (Below.refl _ _).alloc (Nat.le_refl _) _)).mono ?_)
          try simp only [and_imp, forall_exists_index]
          rintro e5 w2 bo rfl hobj hbw
          have hbw' : Below wr.heap.size wr w2 := (((Below.refl wr.heap.size wr).alloc (Nat.le_refl _) _).trans (hbw.mono (by first | (rw [World.size_alloc]; exact Nat.le_succ _) | simp)))
          have hco2 := Coll.below Hco.out hbw'
          have hco3 := Coll.below hco2 ((Below.refl w2.heap.size w2).alloc (Nat.le_refl _) (.cells #[.iface td (.pointer (some ⟨bo, 0, none⟩))] 44))
          have hob3 : ObjP (fun b => wr.heap.size ≤ b ∧ b < (w2.alloc (.cells #[.iface td (.pointer (some ⟨bo, 0, none⟩))] 44)).heap.size) (w2.alloc (.cells #[.iface td (.pointer (some ⟨bo, 0, none⟩))] 44)) (.iface td (.pointer (some ⟨bo, 0, none⟩))) kd :=
            ObjAt.mono (fun b hb => ⟨by have := hb.1; first | omega | (simp at this; omega), by rw [World.size_alloc]; exact Nat.lt_succ_of_lt hb.2⟩) _ _ (ObjAt.keep (fun b hb => ((Below.refl w2.heap.size w2).alloc (Nat.le_refl _) (.cells #[.iface td (.pointer (some ⟨bo, 0, none⟩))] 44)).block b hb.2) _ _ hobj)
          have hP := Lib.hid (mustPush_c (w.heap.size + 1) b0 w2.heap.size wr.heap.size s vr (kids.take k) xs td bo kd _ hco3 (by omega) (fun q hq => (Hco.out.gath.1.lt q hq).2) Hco.out.lt hob3 (newCell rfl))
          have Hbw := Lib.hid hbw'
          clear hbw' hbw hco2 hco3 hob3 hobj
          go_wp2_with (go_at_call 47; refine hP.out.mono ?_)
          try simp only [and_imp, forall_exists_index]
          rintro e6 w6 rfl v6 hco6 hb6
          have Hco6 := Lib.hid hco6
          have Hb6 := Lib.hid hb6
          clear hco6 hb6
          go_wp2
          go_roundw
          case rel => exact ⟨k + 1, _, _, by omega, by go_num, by rw [Ht.out]; exact Hco6.out, Hb.out.trans (((Hbw.out.mono hszr).alloc (by have := Hbw.out.size; omega) _).trans Hb6.out)⟩
          case measure => simp [intOf]; omega
        · have hke : k = kids.length := by omega
          rw [hke, List.take_length] at hco
          have hS := Lib.hid (mustSetLayout_c (w.heap.size + 1) b0 s vr kids xs l wr hco (fun x hx => (Hgk.out x hx).1) (fun h0 x hx => (Hgk.out x hx).2.resolve_left h0) hkl)
          have hO := Lib.hid (Coll.obj hco l s f e ee hkl)
          have Hco := Lib.hid hco
          have Hb := Lib.hid hb
          clear hco hb hke
          go_wp2_with (go_at_call 48; refine hS.out.mono ?_; rintro e7 w7 ⟨rfl, rfl⟩)
          go_ret
          refine ⟨b0, rfl, ObjAt.mono (fun b hb => ⟨by have := hb.1; omega, hb.2⟩) _ _ hO.out, (Hbx.out.trans (Hb.out.mono (Nat.le_succ _))).setCell (p := ⟨b0, 0, none⟩) (Nat.le_trans (Nat.le_succ _) Hco.out.base) _⟩
end Go.Proofs.YtfbgnonnbcejkaaGreatDoor
namespace Go.Proofs.YtfbgnonnbcejkaaGreatDoor
open Go.RowKit

theorem geoLeaf (k l s : Int) (f : List Nat) (e : List Int) (ee : List (List Int)) (kids : List Geo) (h7 : k ≠ 7) : GeoOk (.mk k l s f e ee kids) := by
  intro hgood hlay K w v hga hK
  obtain ⟨vs, rfl, hv⟩ := hga
  have hkr := kind_range _ hgood
  rw [goodF_leaf _ _ _ _ _ _ _ h7] at hgood
  rw [gLayF] at hlay
  have hl2 : 0 ≤ l := by
    simp [h7] at hlay
    omega
  have hk : k = 1 ∨ k = 2 ∨ k = 3 ∨ k = 4 ∨ k = 5 ∨ k = 6 ∨ k = 8 := by
    have : (1 : Int) ≤ k ∧ k ≤ 8 := hkr
    omega
  rcases hk with rfl | rfl | rfl | rfl | rfl | rfl | rfl
  · exact geometry1_c K w l s f e ee kids vs hv hK hl2
  · exact geometry2_c K w l s f e ee kids vs hv hK hl2
  · exact geometry3_c K w l s f e ee kids vs hv hK hl2
  · refine geometry4_c K w l s f e ee kids vs hv hK hl2 fun he => ?_
    subst he
    unfold goodLeaf at hgood
    split at hgood
    · simp at hgood
    · rw [if_neg (by decide), if_neg (by decide), if_pos (by decide)] at hgood
      have h0 : (0 : Int) = f.length := of_decide_eq_true ((Bool.and_eq_true _ _).mp hgood).2
      exact List.length_eq_zero_iff.1 (by omega)
  · exact geometry5_c K w l s f e ee kids vs hv hK hl2
  · exact geometry6_c K w l s f e ee kids vs hv hK hl2
  · exact geometry8_c K w l s f e ee kids vs hv hK hl2
theorem geo_c : ∀ (n : Nat) (g : Geo), SizeOf.sizeOf g ≤ n → GeoOk g := by
  intro n
  induction n with
  | zero => intro g hg; cases g; simp at hg
  | succ n ih =>
    intro g hgn
    cases g with
    | mk k l s f e ee kids =>
    by_cases h7 : k = 7
    · subst h7
      refine geometry7_c l s f e ee kids fun g hg => ih g ?_
      have h1 := List.sizeOf_lt_of_mem hg
      simp at hgn
      omega
    · exact geoLeaf k l s f e ee kids h7
end Go.Proofs.YtfbgnonnbcejkaaGreatDoor
