/- Lemmas on the way to the law FnWKTParts, without conditions beside those that each states: Good of what is no collection: the walk. -/
import Derived.Test.YtfbgnonnbcejkaaGreatDoorY06
namespace Go.Proofs.YtfbgnonnbcejkaaGreatDoor
open Go.RowKit

set_option maxHeartbeats 6400000 in
set_option maxRecDepth 100000 in
theorem goodLeaf_c (K : Nat) (w : World) (k l s : Int) (f : List Nat) (e : List Int) (ee : List (List Int)) (kids : List Geo) (vs : List Value) (hv : GeoVs K w vs (.mk k l s f e ee kids)) (hK : K ≤ w.heap.size) (hk7 : k ≠ 7) (hk6 : k ≠ 6) :
    Calls Tryz.prog 14 #[.agg vs.toArray] w fun en w' => en = .returned (.bool (goodLeaf k l f.length e ee kids.length)) ∧ Below w.heap.size w w' := by
  obtain ⟨vf, ve, vee, vk, rfl, h1, h2, h3, ⟨a3, c3, rfl, ⟨hc3, hl3⟩, _⟩, h5, h6, ao, c, rfl, ⟨h8, hkl⟩, b, o, h9, h10⟩ := hv
  have h5' := h5
  have h6' := h6
  obtain ⟨a4, c4, rfl, ⟨hc4, hl4⟩, _⟩ := h5'
  obtain ⟨a5, c5, rfl, ⟨hc5, hl5⟩, _⟩ := h6'
  have hbx : Below w.heap.size w (w.alloc (.cells #[.int .i64 k, .int .i64 l, .int .i64 s, .slice a3 f.length c3, .slice a4 e.length c4, .slice a5 ee.length c5, .slice ao kids.length c] 27)) := (Below.refl _ _).alloc (Nat.le_refl _) _
  have H5 : Hid (IntsAt K (w.alloc (.cells #[.int .i64 k, .int .i64 l, .int .i64 s, .slice a3 f.length c3, .slice a4 e.length c4, .slice a5 ee.length c5, .slice ao kids.length c] 27)) (.slice a4 e.length c4) e) := Lib.hid (h5.below (hbx.mono hK))
  have H6 : Hid (IntssAt K (w.alloc (.cells #[.int .i64 k, .int .i64 l, .int .i64 s, .slice a3 f.length c3, .slice a4 e.length c4, .slice a5 ee.length c5, .slice ao kids.length c] 27)) (.slice a5 ee.length c5) ee) := Lib.hid (h6.below (hbx.mono hK))
  have Hbx := Lib.hid hbx
  have hcs : Hid (∀ w', Calls Tryz.prog 22 #[.int .i64 l] w' fun e w'' => e = .returned (.int .i64 (strideF l)) ∧ w' = w'') := Lib.hid (stride_c l)
  obtain ⟨hst0, hst1⟩ := strideF_range l h2
  obtain ⟨hst2, hst3⟩ := hst1
  have HF : Hid (goodLeaf k l f.length e ee kids.length = if strideF l = 0 ∨ (f.length : Int) % strideF l ≠ 0 ∨ 0 < kids.length ∨ (0 < ee.length ∧ k ≠ 6) then false
    else if k = 1 then decide (e.length = 0) && decide ((f.length : Int) ≤ strideF l)
    else if k = 2 ∨ k = 8 then decide (e.length = 0)
    else if k = 3 ∨ k = 4 ∨ k = 5 then (goodEndsF (strideF l) (decide (k = 4)) e 0).2 && decide ((goodEndsF (strideF l) (decide (k = 4)) e 0).1 = f.length)
    else if k = 6 then (goodEndssF (strideF l) ee 0 true).2 && (decide ((goodEndssF (strideF l) ee 0 true).1 = f.length) && decide (e.length = 0))
    else false) := rfl
  generalize goodLeaf k l f.length e ee kids.length = R at *
  generalize strideF l = st at *
  clear hbx h5 h6 h9 h10 h1 h2 h3
  have k7 : (k == 7) = false := by simpa using hk7
  clear hk7
  generalize f.length = nf at *
  generalize kids.length = nk at *
  by_cases s0 : st = 0
  · have hR : Hid (R = false) := Lib.hid (by rw [HF.out, if_pos (Or.inl s0)])
    subst s0
    go_enter Tryz.func14, Tryz.ntmps14
    go_wp2_with (go_at_call 22; refine (hcs.out _).mono ?_; rintro e w' ⟨rfl, rfl⟩)
    go_ret; exact ⟨ret_bool (by first | exact hR.out.symm | (rw [hR.out]; simp; omega)), (Below.refl _ _).alloc (Nat.le_refl _) _⟩
  have s0' : (st == 0) = false := by simpa using s0
  have hmod : (nf : Int).tmod st = (nf : Int) % st := Int.tmod_eq_emod_of_nonneg (by omega)
  by_cases m0 : (nf : Int) % st = 0
  rotate_left
  · have hR : Hid (R = false) := Lib.hid (by rw [HF.out, if_pos (Or.inr (Or.inl m0))])
    clear hmod
    go_enter Tryz.func14, Tryz.ntmps14
    go_wp2_with (go_at_call 22; refine (hcs.out _).mono ?_; rintro e w' ⟨rfl, rfl⟩)
    go_ret; exact ⟨ret_bool (by first | exact hR.out.symm | (rw [hR.out]; simp; omega)), (Below.refl _ _).alloc (Nat.le_refl _) _⟩
  clear hmod
  by_cases hnk : 0 < nk
  · have hR : Hid (R = false) := Lib.hid (by rw [HF.out, if_pos (Or.inr (Or.inr (Or.inl hnk)))])
    go_enter Tryz.func14, Tryz.ntmps14
    go_wp2_with (go_at_call 22; refine (hcs.out _).mono ?_; rintro e w' ⟨rfl, rfl⟩)
    go_ret; exact ⟨ret_bool (by first | exact hR.out.symm | (rw [hR.out]; simp; omega)), (Below.refl _ _).alloc (Nat.le_refl _) _⟩
  obtain rfl : nk = 0 := by omega
  have k6 := hk6
  have HF1 : Hid (0 < ee.length → R = false) := Lib.hid (fun h => by rw [HF.out, if_pos (Or.inr (Or.inr (Or.inr ⟨h, k6⟩)))])
  have k6' : (k == 6) = false := by simpa using k6
  have k6'' : (k != 6) = true := by simpa using k6
  by_cases hne : 0 < ee.length
  · have hR : Hid (R = false) := Lib.hid (HF1.out hne)
    clear HF k6 HF1
    go_enter Tryz.func14, Tryz.ntmps14
    go_wp2_with (first | (go_at_call 22; refine (hcs.out _).mono ?_; rintro e w' ⟨rfl, rfl⟩))
    go_ret
    exact ⟨ret_bool (by first | exact hR.out.symm | (rw [hR.out]; simp; omega)), (Below.refl _ _).alloc (Nat.le_refl _) _⟩
  obtain hee : ee.length = 0 := by omega
  have HF2 : Hid (R = if k = 1 then decide (e.length = 0) && decide ((nf : Int) ≤ st)
    else if k = 2 ∨ k = 8 then decide (e.length = 0)
    else if k = 3 ∨ k = 4 ∨ k = 5 then (goodEndsF st (decide (k = 4)) e 0).2 && decide ((goodEndsF st (decide (k = 4)) e 0).1 = nf)
    else false) := Lib.hid (by rw [HF.out, if_neg (by simp [s0, m0, hee]), if_neg k6])
  generalize ee.length = nee at *
  subst hee
  clear HF HF1 k6 hne
  have HE : Hid (∀ single w', w' = w' → IntsAt K w' (.slice a4 e.length c4) e → Calls Tryz.prog 23 #[.slice a4 e.length c4, .int .i64 0, .int .i64 st, .bool single] w' fun en w'' => en = .returned (.tuple #[.int .i64 (goodEndsF st single e 0).1, .bool (goodEndsF st single e 0).2]) ∧ w' = w'') :=
    Lib.hid fun single w' _ h => goodEnds_c K _ e 0 st single w' h (Int.le_refl _) ⟨by decide, by decide⟩ (by omega) ⟨hst2, hst3⟩
  by_cases k1 : k = 1
  · subst k1
    by_cases e0 : e.length = 0
    · by_cases n1 : (nf : Int) ≤ st
      · have hR : Hid (R = true) := Lib.hid (by rw [HF2.out, if_pos rfl, decide_eq_true e0, decide_eq_true n1]; rfl)
        go_enter Tryz.func14, Tryz.ntmps14
        go_wp2_with (first | (go_at_call 22; refine (hcs.out _).mono ?_; rintro e w' ⟨rfl, rfl⟩))
        go_ret
        exact ⟨ret_bool (by first | exact hR.out.symm | (rw [hR.out]; simp; omega)), (Below.refl _ _).alloc (Nat.le_refl _) _⟩
      · have hR : Hid (R = false) := Lib.hid (by rw [HF2.out, if_pos rfl, decide_eq_true e0, decide_eq_false n1]; rfl)
        go_enter Tryz.func14, Tryz.ntmps14
        go_wp2_with (first | (go_at_call 22; refine (hcs.out _).mono ?_; rintro e w' ⟨rfl, rfl⟩))
        go_ret
        exact ⟨ret_bool (by first | exact hR.out.symm | (rw [hR.out]; simp; omega)), (Below.refl _ _).alloc (Nat.le_refl _) _⟩
    · have hR : Hid (R = false) := Lib.hid (by rw [HF2.out, if_pos rfl, decide_eq_false e0]; rfl)
      have e0' : ((e.length : Int) == 0) = false := by rw [beq_eq_false_iff_ne]; omega
      clear e0
      go_enter Tryz.func14, Tryz.ntmps14
      go_wp2_with (first | (go_at_call 22; refine (hcs.out _).mono ?_; rintro e w' ⟨rfl, rfl⟩))
      go_ret
      exact ⟨ret_bool (by first | exact hR.out.symm | (rw [hR.out]; simp; omega)), (Below.refl _ _).alloc (Nat.le_refl _) _⟩
  have k1' : (k == 1) = false := by simpa using k1
  by_cases k2 : k = 2
  · subst k2
    by_cases e0 : e.length = 0
    · have hR : Hid (R = true) := Lib.hid (by rw [HF2.out, if_neg (by decide), if_pos (by decide), decide_eq_true e0])
      go_enter Tryz.func14, Tryz.ntmps14
      go_wp2_with (first | (go_at_call 22; refine (hcs.out _).mono ?_; rintro e w' ⟨rfl, rfl⟩))
      go_ret
      exact ⟨ret_bool (by first | exact hR.out.symm | (rw [hR.out]; simp; omega)), (Below.refl _ _).alloc (Nat.le_refl _) _⟩
    · have hR : Hid (R = false) := Lib.hid (by rw [HF2.out, if_neg (by decide), if_pos (by decide), decide_eq_false e0])
      have e0' : ((e.length : Int) == 0) = false := by rw [beq_eq_false_iff_ne]; omega
      clear e0
      go_enter Tryz.func14, Tryz.ntmps14
      go_wp2_with (first | (go_at_call 22; refine (hcs.out _).mono ?_; rintro e w' ⟨rfl, rfl⟩))
      go_ret
      exact ⟨ret_bool (by first | exact hR.out.symm | (rw [hR.out]; simp; omega)), (Below.refl _ _).alloc (Nat.le_refl _) _⟩
  have k2' : (k == 2) = false := by simpa using k2
  by_cases k8 : k = 8
  · subst k8
    by_cases e0 : e.length = 0
    · have hR : Hid (R = true) := Lib.hid (by rw [HF2.out, if_neg (by decide), if_pos (by decide), decide_eq_true e0])
      go_enter Tryz.func14, Tryz.ntmps14
      go_wp2_with (first | (go_at_call 22; refine (hcs.out _).mono ?_; rintro e w' ⟨rfl, rfl⟩))
      go_ret
      exact ⟨ret_bool (by first | exact hR.out.symm | (rw [hR.out]; simp; omega)), (Below.refl _ _).alloc (Nat.le_refl _) _⟩
    · have hR : Hid (R = false) := Lib.hid (by rw [HF2.out, if_neg (by decide), if_pos (by decide), decide_eq_false e0])
      have e0' : ((e.length : Int) == 0) = false := by rw [beq_eq_false_iff_ne]; omega
      clear e0
      go_enter Tryz.func14, Tryz.ntmps14
      go_wp2_with (first | (go_at_call 22; refine (hcs.out _).mono ?_; rintro e w' ⟨rfl, rfl⟩))
      go_ret
      exact ⟨ret_bool (by first | exact hR.out.symm | (rw [hR.out]; simp; omega)), (Below.refl _ _).alloc (Nat.le_refl _) _⟩
  have k8' : (k == 8) = false := by simpa using k8
  by_cases k3 : k = 3
  · subst k3
    have HF3 : Hid (R = ((goodEndsF st false e 0).2 && decide ((goodEndsF st false e 0).1 = nf))) := Lib.hid (by rw [HF2.out, if_neg (by decide), if_neg (by decide), if_pos (by decide)]; rfl)
    clear HF2
    have HEs : Hid (∀ w', IntsAt K w' (.slice a4 e.length c4) e → Calls Tryz.prog 23 #[.slice a4 e.length c4, .int .i64 0, .int .i64 st, .bool false] w' fun en w'' => en = .returned (.tuple #[.int .i64 (goodEndsF st false e 0).1, .bool (goodEndsF st false e 0).2]) ∧ w' = w'') := Lib.hid fun w' h => HE.out false w' rfl h
    clear HE
    generalize goodEndsF st false e 0 = ge at *
    obtain ⟨gt, gb⟩ := ge
    cases gb
    · have hR : Hid (R = false) := Lib.hid (by rw [HF3.out]; rfl)
      go_enter Tryz.func14, Tryz.ntmps14
      go_wp2_with (first | (go_at_call 22; refine (hcs.out _).mono ?_; rintro e w' ⟨rfl, rfl⟩) | (go_at_call 23; go_loud (refine (HEs.out _ H5.out).mono ?_); rintro e w' ⟨rfl, rfl⟩))
      go_ret
      exact ⟨ret_bool (by first | exact hR.out.symm | (rw [hR.out]; simp; omega)), (Below.refl _ _).alloc (Nat.le_refl _) _⟩
    · by_cases q1 : gt = nf
      · have hR : Hid (R = true) := Lib.hid (by rw [HF3.out, Bool.true_and]; exact decide_eq_true q1)
        have q1' : (gt == (nf : Int)) = true := by simpa using q1
        clear q1
        go_enter Tryz.func14, Tryz.ntmps14
        go_wp2_with (first | (go_at_call 22; refine (hcs.out _).mono ?_; rintro e w' ⟨rfl, rfl⟩) | (go_at_call 23; go_loud (refine (HEs.out _ H5.out).mono ?_); rintro e w' ⟨rfl, rfl⟩))
        go_ret
        exact ⟨ret_bool (by first | exact hR.out.symm | (rw [hR.out]; simp; omega)), (Below.refl _ _).alloc (Nat.le_refl _) _⟩
      · have hR : Hid (R = false) := Lib.hid (by rw [HF3.out, Bool.true_and]; exact decide_eq_false q1)
        have q1' : (gt == (nf : Int)) = false := by simpa using q1
        clear q1
        go_enter Tryz.func14, Tryz.ntmps14
        go_wp2_with (first | (go_at_call 22; refine (hcs.out _).mono ?_; rintro e w' ⟨rfl, rfl⟩) | (go_at_call 23; go_loud (refine (HEs.out _ H5.out).mono ?_); rintro e w' ⟨rfl, rfl⟩))
        go_ret
        exact ⟨ret_bool (by first | exact hR.out.symm | (rw [hR.out]; simp; omega)), (Below.refl _ _).alloc (Nat.le_refl _) _⟩
  have k3' : (k == 3) = false := by simpa using k3
  by_cases k4 : k = 4
  · subst k4
    have HF3 : Hid (R = ((goodEndsF st true e 0).2 && decide ((goodEndsF st true e 0).1 = nf))) := Lib.hid (by rw [HF2.out, if_neg (by decide), if_neg (by decide), if_pos (by decide)]; rfl)
    clear HF2
    have HEs : Hid (∀ w', IntsAt K w' (.slice a4 e.length c4) e → Calls Tryz.prog 23 #[.slice a4 e.length c4, .int .i64 0, .int .i64 st, .bool true] w' fun en w'' => en = .returned (.tuple #[.int .i64 (goodEndsF st true e 0).1, .bool (goodEndsF st true e 0).2]) ∧ w' = w'') := Lib.hid fun w' h => HE.out true w' rfl h
    clear HE
    generalize goodEndsF st true e 0 = ge at *
    obtain ⟨gt, gb⟩ := ge
    cases gb
    · have hR : Hid (R = false) := Lib.hid (by rw [HF3.out]; rfl)
      go_enter Tryz.func14, Tryz.ntmps14
      go_wp2_with (first | (go_at_call 22; refine (hcs.out _).mono ?_; rintro e w' ⟨rfl, rfl⟩) | (go_at_call 23; go_loud (refine (HEs.out _ H5.out).mono ?_); rintro e w' ⟨rfl, rfl⟩))
      go_ret
      exact ⟨ret_bool (by first | exact hR.out.symm | (rw [hR.out]; simp; omega)), (Below.refl _ _).alloc (Nat.le_refl _) _⟩
    · by_cases q1 : gt = nf
      · have hR : Hid (R = true) := Lib.hid (by rw [HF3.out, Bool.true_and]; exact decide_eq_true q1)
        have q1' : (gt == (nf : Int)) = true := by simpa using q1
        clear q1
        go_enter Tryz.func14, Tryz.ntmps14
        go_wp2_with (first | (go_at_call 22; refine (hcs.out _).mono ?_; rintro e w' ⟨rfl, rfl⟩) | (go_at_call 23; go_loud (refine (HEs.out _ H5.out).mono ?_); rintro e w' ⟨rfl, rfl⟩))
        go_ret
        exact ⟨ret_bool (by first | exact hR.out.symm | (rw [hR.out]; simp; omega)), (Below.refl _ _).alloc (Nat.le_refl _) _⟩
      · have hR : Hid (R = false) := Lib.hid (by rw [HF3.out, Bool.true_and]; exact decide_eq_false q1)
        have q1' : (gt == (nf : Int)) = false := by simpa using q1
        clear q1
        go_enter Tryz.func14, Tryz.ntmps14
        go_wp2_with (first | (go_at_call 22; refine (hcs.out _).mono ?_; rintro e w' ⟨rfl, rfl⟩) | (go_at_call 23; go_loud (refine (HEs.out _ H5.out).mono ?_); rintro e w' ⟨rfl, rfl⟩))
        go_ret
        exact ⟨ret_bool (by first | exact hR.out.symm | (rw [hR.out]; simp; omega)), (Below.refl _ _).alloc (Nat.le_refl _) _⟩
  have k4' : (k == 4) = false := by simpa using k4
  by_cases k5 : k = 5
  · subst k5
    have HF3 : Hid (R = ((goodEndsF st false e 0).2 && decide ((goodEndsF st false e 0).1 = nf))) := Lib.hid (by rw [HF2.out, if_neg (by decide), if_neg (by decide), if_pos (by decide)]; rfl)
    clear HF2
    have HEs : Hid (∀ w', IntsAt K w' (.slice a4 e.length c4) e → Calls Tryz.prog 23 #[.slice a4 e.length c4, .int .i64 0, .int .i64 st, .bool false] w' fun en w'' => en = .returned (.tuple #[.int .i64 (goodEndsF st false e 0).1, .bool (goodEndsF st false e 0).2]) ∧ w' = w'') := Lib.hid fun w' h => HE.out false w' rfl h
    clear HE
    generalize goodEndsF st false e 0 = ge at *
    obtain ⟨gt, gb⟩ := ge
    cases gb
    · have hR : Hid (R = false) := Lib.hid (by rw [HF3.out]; rfl)
      go_enter Tryz.func14, Tryz.ntmps14
      go_wp2_with (first | (go_at_call 22; refine (hcs.out _).mono ?_; rintro e w' ⟨rfl, rfl⟩) | (go_at_call 23; go_loud (refine (HEs.out _ H5.out).mono ?_); rintro e w' ⟨rfl, rfl⟩))
      go_ret
      exact ⟨ret_bool (by first | exact hR.out.symm | (rw [hR.out]; simp; omega)), (Below.refl _ _).alloc (Nat.le_refl _) _⟩
    · by_cases q1 : gt = nf
      · have hR : Hid (R = true) := Lib.hid (by rw [HF3.out, Bool.true_and]; exact decide_eq_true q1)
        have q1' : (gt == (nf : Int)) = true := by simpa using q1
        clear q1
        go_enter Tryz.func14, Tryz.ntmps14
        go_wp2_with (first | (go_at_call 22; refine (hcs.out _).mono ?_; rintro e w' ⟨rfl, rfl⟩) | (go_at_call 23; go_loud (refine (HEs.out _ H5.out).mono ?_); rintro e w' ⟨rfl, rfl⟩))
        go_ret
        exact ⟨ret_bool (by first | exact hR.out.symm | (rw [hR.out]; simp; omega)), (Below.refl _ _).alloc (Nat.le_refl _) _⟩
      · have hR : Hid (R = false) := Lib.hid (by rw [HF3.out, Bool.true_and]; exact decide_eq_false q1)
        have q1' : (gt == (nf : Int)) = false := by simpa using q1
        clear q1
        go_enter Tryz.func14, Tryz.ntmps14
        go_wp2_with (first | (go_at_call 22; refine (hcs.out _).mono ?_; rintro e w' ⟨rfl, rfl⟩) | (go_at_call 23; go_loud (refine (HEs.out _ H5.out).mono ?_); rintro e w' ⟨rfl, rfl⟩))
        go_ret
        exact ⟨ret_bool (by first | exact hR.out.symm | (rw [hR.out]; simp; omega)), (Below.refl _ _).alloc (Nat.le_refl _) _⟩
  have k5' : (k == 5) = false := by simpa using k5
  have hR : Hid (R = false) := Lib.hid (by rw [HF2.out, if_neg k1, if_neg (by omega), if_neg (by omega)])
  clear k1 k2 k8 k3 k4 k5
  go_enter Tryz.func14, Tryz.ntmps14
  go_wp2_with (first | (go_at_call 22; refine (hcs.out _).mono ?_; rintro e w' ⟨rfl, rfl⟩))
  go_ret
  exact ⟨ret_bool (by first | exact hR.out.symm | (rw [hR.out]; simp; omega)), (Below.refl _ _).alloc (Nat.le_refl _) _⟩
end Go.Proofs.YtfbgnonnbcejkaaGreatDoor
