/- Lemmas on the way to the law FnWKTParts, without conditions beside those that each states: Good: the walk. -/
import Derived.Test.YtfbgnonnbcejkaaGreatDoorY07
import Derived.Deep.DeepCutAuto
namespace Go.Proofs.YtfbgnonnbcejkaaGreatDoor
open Go.RowKit

theorem keeps_below_cell {N : Nat} {w w' : World} {b o : Nat} {v : Value} (h : Below N w w') (hb : b < N) (hc : w.cell? ⟨b, o, none⟩ = some v) : w'.cell? ⟨b, o, none⟩ = some v :=
  (World.cell?_of_block (a := ⟨b, _, none⟩) (h.block b hb)).trans hc
set_option maxHeartbeats 12800000 in
set_option maxRecDepth 100000 in
theorem good_c : ∀ (n : Nat) (g : Geo), SizeOf.sizeOf g ≤ n → ∀ (K : Nat) (w : World) (v : Value), GeoAt K w v g → K ≤ w.heap.size →
    Calls Tryz.prog 14 #[v] w fun e w' => e = .returned (.bool (goodF g)) ∧ Below w.heap.size w w' := by
  intro n
  induction n with
  | zero => intro g hg; cases g; simp at hg
  | succ n ih =>
    intro g hgn K w v hg hK
    obtain ⟨vs, rfl, hv⟩ := hg
    cases g with
    | mk k l s f e ee kids =>
    by_cases h7 : k = 7
    rotate_left
    · rw [show goodF (.mk k l s f e ee kids) = goodLeaf k l f.length e ee kids.length by rw [goodF, if_neg h7]]
      by_cases h6 : k = 6
      · subst h6
        exact goodLeaf6_c K w l s f e ee kids vs hv hK
      · exact goodLeaf_c K w k l s f e ee kids vs hv hK h7 h6
    · subst h7
      obtain ⟨vf, ve, vee, vk, rfl, h1, h2, h3, ⟨a3, c3, rfl, ⟨hc3, hl3⟩, _⟩, ⟨a4, c4, rfl, ⟨hc4, hl4⟩, _⟩, ⟨a5, c5, rfl, ⟨hc5, hl5⟩, _⟩, ao, c, rfl, ⟨h8, hkl⟩, b, o, h9, h10⟩ := hv
      have hF : goodF (.mk 7 l s f e ee kids) = (goodAll l kids && (decide (0 ≤ l) && decide (f.length + e.length + ee.length = 0))) := by rw [goodF, if_pos rfl]
      have HF := Lib.hid hF
      have Hg := Lib.hid h10
      have H9 := Lib.hid h9
      have Hih := Lib.hid ih
      have hcs : Hid (∀ w', Calls Tryz.prog 22 #[.int .i64 l] w' fun e w'' => e = .returned (.int .i64 (strideF l)) ∧ w' = w'') := Lib.hid (stride_c l)
      clear hF h10 h9 ih h1 h2 h3
      generalize goodF (.mk 7 l s f e ee kids) = R at *
      generalize strideF l = st at *
      generalize f.length = nf at *
      generalize e.length = ne at *
      generalize ee.length = nee at *
      go_enter Tryz.func14, Tryz.ntmps14
      go_wp2_with (go_at_call 22; refine (hcs.out _).mono ?_; rintro e w' ⟨rfl, rfl⟩)
      have hbx : Below w.heap.size w (w.alloc (.cells #[.int .i64 7, .int .i64 l, .int .i64 s, .slice a3 nf c3, .slice a4 ne c4, .slice a5 nee c5, .slice ao kids.length c] 27)) := (Below.refl _ _).alloc (Nat.le_refl _) _
      have hsx : (w.alloc (.cells #[.int .i64 7, .int .i64 l, .int .i64 s, .slice a3 nf c3, .slice a4 ne c4, .slice a5 nee c5, .slice ao kids.length c] 27)).heap.size = w.heap.size + 1 := World.size_alloc ..
      have hcx : CellsAt (w.alloc (.cells #[.int .i64 7, .int .i64 l, .int .i64 s, .slice a3 nf c3, .slice a4 ne c4, .slice a5 nee c5, .slice ao kids.length c] 27)) w.heap.size 0 [.int .i64 7, .int .i64 l, .int .i64 s, .slice a3 nf c3, .slice a4 ne c4, .slice a5 nee c5, .slice ao kids.length c] := by
        intro j hj
        rw [Nat.zero_add, World.cell?_alloc_new, List.getD_eq_getElem?_getD, List.getElem?_eq_getElem hj]
        simp
      generalize w.alloc (.cells #[.int .i64 7, .int .i64 l, .int .i64 s, .slice a3 nf c3, .slice a4 ne c4, .slice a5 nee c5, .slice ao kids.length c] 27) = w1 at *
      have Hcx := Lib.hid hcx
      have Hbx := Lib.hid hbx
      have Hsx := Lib.hid hsx
      clear hcx hbx hsx
      go_loopw [22] (fun i wr => ∃ (j : Nat), j ≤ kids.length ∧ i = .int .i64 j ∧ goodAll l (kids.drop j) = goodAll l kids ∧ Below (w.heap.size + 1) w1 wr) (fun i _ => kids.length - (intOf i).toNat)
      case atStart => exact ⟨0, Nat.zero_le _, rfl, rfl, Below.refl _ _⟩
      case round =>
        obtain ⟨j, hj, rfl, hr, hb⟩ := hrel
        have hcr : CellsAt wr w.heap.size 0 _ := fun j hj => (World.cell?_of_block (a := ⟨w.heap.size, 0 + j, none⟩) (hb.block w.heap.size (Nat.lt_succ_self _))).trans (Hcx.out j hj)
        obtain ⟨x0, x1, x2, x3, x4, x5, x6⟩ := seven_cells hcr
        have hws : w.heap.size + 1 ≤ wr.heap.size := by have := Hsx.out; have := hb.size; omega
        have hlt : w.heap.size < wr.heap.size := hws
        have Hcr := Lib.hid hcr
        clear hcr x0 x2 x6
        by_cases hjl : j < kids.length
        · obtain ⟨rfl, hbK⟩ := H9.out (by omega)
          have hget : kids[j]? = some kids[j] := List.getElem?_eq_getElem hjl
          rw [goodAll_drop l kids j _ hget] at hr
          obtain ⟨us, hc, hu⟩ := GeosAt.get kids b o j _ (GeosAt.below ((Hbx.out.mono hK).trans (hb.mono (by omega))) kids b o hbK Hg.out) hget
          obtain ⟨q0, q1, q2, b3, b4, b5, b6, n3, n4, n5, n6, m3, m4, m5, m6, rfl⟩ := hu.seven
          obtain ⟨d0, d1, d2, d3, d4, d5, d6⟩ := seven_cells hc
          have hsz : SizeOf.sizeOf kids[j] ≤ n := by
            have h1 := List.sizeOf_lt_of_mem (List.getElem_mem hjl)
            simp at hgn
            omega
          have hC : Hid (∀ w', Below wr.heap.size wr w' → Calls Tryz.prog 14 #[.agg #[.int .i64 q0, .int .i64 q1, .int .i64 q2, .slice b3 n3 m3, .slice b4 n4 m4, .slice b5 n5 m5, .slice b6 n6 m6]] w' fun e w'' => e = .returned (.bool (goodF kids[j])) ∧ Below w'.heap.size w' w'') :=
            Lib.hid fun w' hw' => Hih.out kids[j] hsz K w' _ ⟨_, rfl, GeoVs.below (hw'.mono (by omega)) _ _ hu⟩ (by have := hw'.size; omega)
          have hL : Hid (∀ w', Below wr.heap.size wr w' → Calls Tryz.prog 9 #[.agg #[.int .i64 q0, .int .i64 q1, .int .i64 q2, .slice b3 n3 m3, .slice b4 n4 m4, .slice b5 n5 m5, .slice b6 n6 m6]] w' fun e w'' => e = .returned (.int .i64 (layoutOfF kids[j])) ∧ Below w'.heap.size w' w'') :=
            Lib.hid fun w' hw' => layoutOf_c _ kids[j] (Nat.le_refl _) K w' _ ⟨_, rfl, GeoVs.below (hw'.mono (by omega)) _ _ hu⟩ (by have := hw'.size; omega)
          have Hb := Lib.hid hb
          clear hb hc hu hget hsz
          generalize goodF kids[j] = gk at *
          generalize layoutOfF kids[j] = lk at *
          go_upto_region 6 with fail
          have hbk : Below wr.heap.size wr (wr.alloc (.cells #[.int .i64 q0, .int .i64 q1, .int .i64 q2, .slice b3 n3 m3, .slice b4 n4 m4, .slice b5 n5 m5, .slice b6 n6 m6] 27)) := (Below.refl _ _).alloc (Nat.le_refl _) _
          have hsk : (wr.alloc (.cells #[.int .i64 q0, .int .i64 q1, .int .i64 q2, .slice b3 n3 m3, .slice b4 n4 m4, .slice b5 n5 m5, .slice b6 n6 m6] 27)).heap.size = wr.heap.size + 1 := World.size_alloc ..
          have hck : CellsAt (wr.alloc (.cells #[.int .i64 q0, .int .i64 q1, .int .i64 q2, .slice b3 n3 m3, .slice b4 n4 m4, .slice b5 n5 m5, .slice b6 n6 m6] 27)) wr.heap.size 0 [.int .i64 q0, .int .i64 q1, .int .i64 q2, .slice b3 n3 m3, .slice b4 n4 m4, .slice b5 n5 m5, .slice b6 n6 m6] := by
            intro j hj
            rw [Nat.zero_add, World.cell?_alloc_new, List.getD_eq_getElem?_getD, List.getElem?_eq_getElem hj]
            simp
          have hx1 : (wr.alloc (.cells #[.int .i64 q0, .int .i64 q1, .int .i64 q2, .slice b3 n3 m3, .slice b4 n4 m4, .slice b5 n5 m5, .slice b6 n6 m6] 27)).cell? ⟨w.heap.size, 1, none⟩ = some (.int .i64 l) := (keeps_below_cell hbk hlt x1)
          generalize wr.alloc (.cells #[.int .i64 q0, .int .i64 q1, .int .i64 q2, .slice b3 n3 m3, .slice b4 n4 m4, .slice b5 n5 m5, .slice b6 n6 m6] 27) = w2 at *
          obtain ⟨y0, y1, y2, y3, y4, y5, y6⟩ := seven_cells hck
          have Hck := Lib.hid hck
          have Hsk := Lib.hid hsk
          have Hbk := Lib.hid hbk
          have Hx1 := Lib.hid hx1
          clear hck hsk hbk d0 d1 d2 d3 d4 d5 d6 x1 x3 x4 x5
          cases gk
          · have hR : Hid (R = false) := Lib.hid (by rw [HF.out, ← hr]; rfl)
            have hun : (undef : Value) = .tuple #[] := rfl
            clear hr
            first | go_region_with (go_at_call 14; refine (hC.out _ (by first | exact Hbk.out | exact Hbk.out.drew)).mono ?_; rintro e w3 ⟨rfl, hb3⟩) | fail
            all_goals
              go_wp2
              go_ret
              exact ⟨ret_bool hR.out.symm, Hbx.out.trans ((Hb.out.mono (Nat.le_succ _)).trans ((Hbk.out.mono (by omega)).trans (((Below.refl _ w2).drew).trans (hb3.mono (by have := Hsk.out; simp; omega)))))⟩
          · by_cases hl0 : l = 0
            · have Hr : Hid (goodAll l (kids.drop (j + 1)) = goodAll l kids) := Lib.hid (by rw [← hr, decide_eq_true hl0]; simp)
              have hl0' : (l != 0) = false := by simpa using hl0
              clear hr hl0
              first | go_region_with (go_at_call 14; refine (hC.out _ (by first | exact Hbk.out | exact Hbk.out.drew)).mono ?_; rintro e w3 ⟨rfl, hb3⟩; have z1 : w3.cell? ⟨w.heap.size, 1, none⟩ = some (.int .i64 l) := keeps_below_cell hb3 (by have := Hsk.out; simp; omega) Hx1.out) | fail
              all_goals
                go_wp2
                go_roundw
                case rel => exact ⟨j + 1, by omega, by go_num, Hr.out, Hb.out.trans ((Hbk.out.mono hws).trans (((Below.refl _ w2).drew).trans (hb3.mono (by have := Hsk.out; simp; omega))))⟩
                case measure => simp [intOf]; omega
            · have hl0' : (l != 0) = true := by simpa using hl0
              by_cases hlk : lk = l
              · have Hr : Hid (goodAll l (kids.drop (j + 1)) = goodAll l kids) := Lib.hid (by rw [← hr, decide_eq_true hlk]; simp)
                have hlk' : (lk != l) = false := by simpa using hlk
                clear hr hl0 hlk
                first | go_region_with (first | (go_at_call 14; refine (hC.out _ (by first | exact Hbk.out | exact Hbk.out.drew)).mono ?_; rintro e w3 ⟨rfl, hb3⟩; have z1 : w3.cell? ⟨w.heap.size, 1, none⟩ = some (.int .i64 l) := keeps_below_cell hb3 (by have := Hsk.out; simp; omega) Hx1.out; have hcy : CellsAt w3 wr.heap.size 0 [.int .i64 q0, .int .i64 q1, .int .i64 q2, .slice b3 n3 m3, .slice b4 n4 m4, .slice b5 n5 m5, .slice b6 n6 m6] := fun j hj => keeps_below_cell hb3 (by have := Hsk.out; simp; omega) (Hck.out j hj); obtain ⟨z0, z01, z02, z03, z04, z05, z06⟩ := seven_cells hcy) | (go_at_call 9; refine (hL.out _ (by exact Hbk.out.trans (((Below.refl _ w2).drew).trans (hb3.mono (by have := Hsk.out; simp; omega))))).mono ?_; rintro e w4 ⟨rfl, hb4⟩; have z11 : w4.cell? ⟨w.heap.size, 1, none⟩ = some (.int .i64 l) := keeps_below_cell hb4 (by have := hb3.size; have := Hsk.out; simp at *; omega) z1)) | fail
                all_goals
                  go_wp2
                  go_roundw
                  case rel => exact ⟨j + 1, by omega, by go_num, Hr.out, Hb.out.trans ((Hbk.out.mono hws).trans (((Below.refl _ w2).drew).trans ((hb3.mono (by have := Hsk.out; simp; omega)).trans (hb4.mono (by have := hb3.size; have := Hsk.out; simp at *; omega)))))⟩
                  case measure => simp [intOf]; omega
              · have hR : Hid (R = false) := Lib.hid (by rw [HF.out, ← hr, decide_eq_false hlk, decide_eq_false hl0]; rfl)
                have hlk' : (lk != l) = true := by simpa using hlk
                clear hr hl0 hlk
                first | go_region_with (first | (go_at_call 14; refine (hC.out _ (by first | exact Hbk.out | exact Hbk.out.drew)).mono ?_; rintro e w3 ⟨rfl, hb3⟩; have z1 : w3.cell? ⟨w.heap.size, 1, none⟩ = some (.int .i64 l) := keeps_below_cell hb3 (by have := Hsk.out; simp; omega) Hx1.out; have hcy : CellsAt w3 wr.heap.size 0 [.int .i64 q0, .int .i64 q1, .int .i64 q2, .slice b3 n3 m3, .slice b4 n4 m4, .slice b5 n5 m5, .slice b6 n6 m6] := fun j hj => keeps_below_cell hb3 (by have := Hsk.out; simp; omega) (Hck.out j hj); obtain ⟨z0, z01, z02, z03, z04, z05, z06⟩ := seven_cells hcy) | (go_at_call 9; refine (hL.out _ (by exact Hbk.out.trans (((Below.refl _ w2).drew).trans (hb3.mono (by have := Hsk.out; simp; omega))))).mono ?_; rintro e w4 ⟨rfl, hb4⟩; have z11 : w4.cell? ⟨w.heap.size, 1, none⟩ = some (.int .i64 l) := keeps_below_cell hb4 (by have := hb3.size; have := Hsk.out; simp at *; omega) z1)) | fail
                all_goals
                  go_wp2
                  go_ret
                  exact ⟨ret_bool hR.out.symm, Hbx.out.trans ((Hb.out.mono (Nat.le_succ _)).trans ((Hbk.out.mono (by omega)).trans (((Below.refl _ w2).drew).trans ((hb3.mono (by have := Hsk.out; simp; omega)).trans (hb4.mono (by have := hb3.size; have := Hsk.out; simp at *; omega))))))⟩
        · have hje : j = kids.length := by omega
          rw [hje, List.drop_length] at hr
          have HF2 : Hid (R = (decide (0 ≤ l) && decide (nf + ne + nee = 0))) := Lib.hid (by rw [HF.out, ← hr]; rfl)
          have Hfin := Lib.hid (Hbx.out.trans (hb.mono (Nat.le_succ _)))
          clear hr hje hb HF
          by_cases e1 : 0 ≤ l
          · by_cases e2 : nf + ne + nee = 0
            · have hR : Hid (R = true) := Lib.hid (by rw [HF2.out, decide_eq_true e1, decide_eq_true e2]; rfl)
              have q1 : nf = 0 := by omega
              have q2 : ne = 0 := by omega
              have q3 : nee = 0 := by omega
              subst q1 q2 q3
              go_wp2
              go_ret
              exact ⟨ret_bool hR.out.symm, Hfin.out⟩
            · have hR : Hid (R = false) := Lib.hid (by rw [HF2.out, decide_eq_false e2]; simp)
              have e2' : (((nf : Int) + ne + nee) == 0) = false := by rw [beq_eq_false_iff_ne]; omega
              go_wp2
              go_ret
              exact ⟨ret_bool (by first | exact hR.out.symm | (rw [hR.out]; simp; omega)), Hfin.out⟩
          · have hR : Hid (R = false) := Lib.hid (by rw [HF2.out, decide_eq_false e1]; rfl)
            go_wp2
            go_ret
            exact ⟨ret_bool hR.out.symm, Hfin.out⟩
end Go.Proofs.YtfbgnonnbcejkaaGreatDoor
