/- Lemmas on the way to the law FnWKTParts, without conditions beside those that each states: rightShift: the digits of a number divided by a power of two | A decimal as its digits, its point, its flag; Shift | Shift | Round: to so many digits. -/
import Derived.Test.YtfbgnonnbcejkaaGreatDoorY20
import Derived.Test.YtfbgnonnbcejkaaGreatDoorY18
import Derived.Deep.LoopGhost
namespace Go.Proofs.YtfbgnonnbcejkaaGreatDoor
open Go.RowKit

/-- The middle loop's relation: i digits have gone out. -/
def RightMid (a k : Nat) (D : List UInt8) (R : Nat) (dp : Int) (tr : Bool) (w : World) (i : Nat) (wr : World) : Prop :=
  ∃ P, DecM wr a P D.length dp (rsTr k D R tr i) ∧ (∀ j, i ≤ j → j < D.length → P j = u8c (D.getD j 0)) ∧ (∀ j, j < i → j < 800 → P j = u8c (rsOut k D R j)) ∧ Onl a w wr

theorem idiv_pow (v k : Nat) : (v : Int) / 2 ^ k = ((v / 2 ^ k : Nat) : Int) := by rw [Int.natCast_ediv, Int.natCast_pow]; rfl
theorem mask_num (v k : Nat) (hv : v < 18446744073709551616) (hk : 2 ^ k ≤ 1152921504606846976) : bits .and .u64 (v : Int) (IntKind.u64.wrap (IntKind.u64.wrap (2 ^ k) - 1)) = ((v % 2 ^ k : Nat) : Int) := by
  have hp : 0 < 2 ^ k := Nat.pow_pos (by decide)
  have e1 : ((2 : Int) ^ k) = ((2 ^ k : Nat) : Int) := by rw [Int.natCast_pow]; rfl
  have e2 : IntKind.u64.wrap (IntKind.u64.wrap (2 ^ k) - 1) = ((2 ^ k - 1 : Nat) : Int) := by
    rw [e1, wrapu (a := ((2 ^ k : Nat) : Int)) (by omega) (by omega), wrapu (by omega) (by omega)]
    omega
  rw [e2]
  have e3 : bits .and .u64 (v : Int) ((2 ^ k - 1 : Nat) : Int) = IntKind.u64.wrap ((BitVec.ofInt 64 (v : Int) &&& BitVec.ofInt 64 ((2 ^ k - 1 : Nat) : Int)).toNat : Int) := rfl
  rw [e3, BitVec.toNat_and, BitVec.ofInt_natCast, BitVec.ofInt_natCast, BitVec.toNat_ofNat, BitVec.toNat_ofNat, Nat.mod_eq_of_lt (by omega), Nat.mod_eq_of_lt (by omega), Nat.and_two_pow_sub_one_eq_mod]
  have := Nat.mod_lt v hp
  rw [wrapu (by omega) (by omega)]
theorem next_num (m x : Nat) (hm : m < 1152921504606846976) (hx : x ≤ 9) : IntKind.u64.wrap (IntKind.u64.wrap (IntKind.u64.wrap ((m : Int) * 10) + (48 + (x : Int))) - 48) = ((m * 10 + x : Nat) : Int) := by
  rw [wrapu (a := (m : Int) * 10) (by omega) (by omega), wrapu (a := _ + _) (by omega) (by omega), wrapu (by omega) (by omega)]
  omega
theorem next0_num (m : Nat) (hm : m < 1152921504606846976) : IntKind.u64.wrap ((m : Int) * 10) = ((m * 10 : Nat) : Int) := by
  rw [wrapu (by omega) (by omega)]
  omega
theorem out_num (v k : Nat) (h : v / 2 ^ k ≤ 9) : IntKind.u64.wrap ((v : Int) / 2 ^ k + 48) % 256 = ((48 + v / 2 ^ k : Nat) : Int) := by
  rw [idiv_pow]
  generalize v / 2 ^ k = q at *
  rw [wrapu (by omega) (by omega)]
  omega
section
variable {a k : Nat} {D : List UInt8} {R : Nat} {dp : Int} {tr : Bool} {w : World} {i : Nat} {wr : World}
theorem RightMid.store (h : RightMid a k D R dp tr w i wr) (h8 : i < 800) (v : Value) (hv : v = u8c (rsOut k D R i)) : RightMid a k D R dp tr w (i + 1) (wr.setCell ⟨a, i, none⟩ v) := by
  obtain ⟨P, h1, h2, h3, h4⟩ := h
  have e : rsTr k D R tr (i + 1) = rsTr k D R tr i := by simp only [rsTr]; rw [if_neg (by omega)]
  refine ⟨_, by rw [e]; exact h1.setD i h8 v, fun j hj hjD => ?_, fun j hj hj8 => ?_, h4.set _ _⟩
  · show (if i = j then v else P j) = _
    rw [if_neg (by omega)]; exact h2 j (by omega) hjD
  · show (if i = j then v else P j) = _
    rcases Nat.lt_or_ge j i with h' | h'
    · rw [if_neg (by omega)]; exact h3 j h' hj8
    · have e' : j = i := by omega
      subst e'
      rw [if_pos rfl]; exact hv
theorem RightMid.skip (h : RightMid a k D R dp tr w i wr) (h8 : 800 ≤ i) (hz : rsN k D R i / 2 ^ k = 0) : RightMid a k D R dp tr w (i + 1) wr := by
  obtain ⟨P, h1, h2, h3, h4⟩ := h
  have e : rsTr k D R tr (i + 1) = rsTr k D R tr i := by simp only [rsTr]; rw [if_neg (fun hh => hh.2 hz)]
  refine ⟨P, by rw [e]; exact h1, fun j hj hjD => h2 j (by omega) hjD, fun j hj hj8 => h3 j (by omega) hj8, h4⟩
theorem RightMid.flag (h : RightMid a k D R dp tr w i wr) (h8 : 800 ≤ i) (hz : rsN k D R i / 2 ^ k ≠ 0) : RightMid a k D R dp tr w (i + 1) (wr.setCell ⟨a, 803, none⟩ (.bool true)) := by
  obtain ⟨P, h1, h2, h3, h4⟩ := h
  have e : rsTr k D R tr (i + 1) = true := by simp only [rsTr]; rw [if_pos ⟨h8, hz⟩]
  refine ⟨P, by rw [e]; exact h1.setTr true, fun j hj hjD => h2 j (by omega) hjD, fun j hj hj8 => h3 j (by omega) hj8, h4.set _ _⟩
end
theorem rsOut_cell (k : Nat) (D : List UInt8) (R i v : Nat) (hv : rsN k D R i = v) (h : v < 10 * 2 ^ k) : Value.int .u8 ((48 + v / 2 ^ k : Nat) : Int) = u8c (rsOut k D R i) ∧ v / 2 ^ k ≤ 9 := by
  obtain ⟨h1, h2⟩ := rsOut_toNat k D R i (hv ▸ h)
  refine ⟨?_, hv ▸ h2⟩
  show _ = Value.int .u8 (((rsOut k D R i).toNat : Nat) : Int)
  rw [h1, hv]

theorem shr0 (v k : Nat) : ((v : Int) / 2 ^ k == 0) = decide (v < 2 ^ k) := by
  have e : (v : Int) / 2 ^ k = ((v / 2 ^ k : Nat) : Int) := by rw [Int.natCast_ediv, Int.natCast_pow]; rfl
  rw [e]
  have hp : 0 < 2 ^ k := Nat.pow_pos (by decide)
  rcases Nat.lt_or_ge v (2 ^ k) with h | h
  · rw [Nat.div_eq_of_lt h, decide_eq_true h]; rfl
  · rw [decide_eq_false (by omega), beq_eq_false_iff_ne]
    have := (Nat.le_div_iff_mul_le hp (x := 1) (y := v)).2 (by omega)
    omega

set_option maxHeartbeats 3200000 in
set_option maxRecDepth 100000 in
theorem rightShift_c (a k : Nat) (P : Nat → Value) (b : UInt8) (D1 D : List UInt8) (hDD : D = b :: D1) (dp : Int) (tr : Bool) (w : World) (h : DecM w a P D.length dp tr) (hP : Begins P D)
    (hD : AllDig D) (hb : b ≠ 48) (hl : D.length ≤ 800) (hk1 : 1 ≤ k) (hk60 : k ≤ 60) (hdp0 : -100000 ≤ dp) (hdp1 : dp ≤ 100000) :
    Calls Tryz.prog 117 #[.pointer (some ⟨a, 0, none⟩), .int .u64 k] w fun e w' => e = .returned (.tuple #[]) ∧
      (∃ P', DecM w' a P' (stripZ (rightL k D)).length (trimDp (rightL k D) (dp - (rsR k D - 1))) (rightTr k D tr) ∧ Begins P' (stripZ (rightL k D))) ∧ Onl a w w' := by
  have c0 := h.cellNd
  have hp60 := pow60 k hk60
  have hD1 : 1 ≤ D.length := by rw [hDD]; simp
  have hrb : ∀ r, (∀ j, j < r → preV D j < 2 ^ k) → r ≤ 20 := fun r hr => by
    rw [hDD] at hr
    exact rs_below k hk60 b D1 (hD b (by rw [hDD]; exact List.mem_cons_self)) hb r hr
  have hgrow := preV_grow D
  have hex := exD_le D hD
  have hpos : ∀ r, 1 ≤ r → 0 < preV D r := fun r hr => by
    obtain ⟨r, rfl⟩ : ∃ r', r = r' + 1 := ⟨r - 1, by omega⟩
    have := preV_ge b D1 (hD b (by rw [hDD]; exact List.mem_cons_self)) hb r
    rw [← hDD] at this
    exact Nat.lt_of_lt_of_le (Nat.pow_pos (by decide)) this
  have hcell : ∀ j, j < D.length → w.cell? ⟨a, j, none⟩ = some (.int .u8 (48 + (exD D j : Int))) := fun j hj => by
    rw [h.cell j (by omega), hP j hj]
    have : IsDig (D.getD j 0) := by
      rw [List.getD_eq_getElem?_getD, List.getElem?_eq_getElem hj]
      exact hD _ (List.getElem_mem hj)
    unfold IsDig at this
    show some (Value.int .u8 (((D.getD j 0).toNat : Nat) : Int)) = _
    rw [exD, if_pos hj]
    congr 2
    omega
  have HDD := Lib.hid hDD
  have Hrb := Lib.hid hrb
  have Hgr := Lib.hid hgrow
  have Hex := Lib.hid hex
  have Hpo := Lib.hid hpos
  have Hce := Lib.hid hcell
  clear hDD hrb hgrow hex hpos hcell
  go_enter Tryz.func117, Tryz.ntmps117
  go_upto_block 0 with fail
  go_cut [4, 6] (fun s4 s6 wx => wx = w ∧ ∃ r : Nat, s4 = .int .i64 (r : Int) ∧ s6 = .int .u64 (preV D r : Int) ∧ 2 ^ k ≤ preV D r ∧ ∀ j, j < r → preV D j < 2 ^ k)
  case first =>
    go_wp2_with fail
    go_loopw [4, 6] (fun r n wr => wr = w ∧ ∃ i : Nat, i ≤ D.length ∧ r = .int .i64 (i : Int) ∧ n = .int .u64 (preV D i : Int) ∧ ∀ j, j < i → preV D j < 2 ^ k) (fun r _ _ => D.length - (intOf r).toNat)
    case atStart => exact ⟨rfl, 0, Nat.zero_le _, rfl, rfl, fun j hj => absurd hj (Nat.not_lt_zero _)⟩
    case round =>
      obtain ⟨rfl, i, hi, rfl, rfl, hlt⟩ := hrel
      have Hlt := Lib.hid hlt
      have hi20 := Hrb.out i hlt
      clear hlt
      generalize hv : preV D i = v at *
      have Hv := Lib.hid hv
      clear hv
      by_cases hge : 2 ^ k ≤ v
      · have hq : ((v : Int) / 2 ^ k == 0) = false := by rw [shr0]; exact decide_eq_false (by omega)
        go_wp2_with fail
        go_meet
        case rel => exact ⟨rfl, i, rfl, by rw [Hv.out], by rw [Hv.out]; exact hge, Hlt.out⟩
      · have hq : ((v : Int) / 2 ^ k == 0) = true := by rw [shr0]; exact decide_eq_true (by omega)
        have Hv1 : Hid (∀ j, j < i + 1 → preV D j < 2 ^ k) := Lib.hid fun j hj => by
          rcases Nat.lt_or_ge j i with h' | h'
          · exact Hlt.out j h'
          · rw [show j = i by omega, Hv.out]; omega
        by_cases hiD : i < D.length
        · have c1 := Hce.out i hiD
          have hx := Hex.out i
          have hst : preV D (i + 1) = v * 10 + exD D i := by simp only [preV]; rw [Hv.out]
          have Hst := Lib.hid hst
          clear hst
          generalize exD D i = x at *
          go_wp2_with fail
          go_roundw
          case rel => exact ⟨trivial, i + 1, by omega, by go_num, by rw [Hst.out]; go_num, Hv1.out⟩
          case measure => simp [intOf]; omega
        · have hv0 : 0 < v := by have := Hpo.out i (by omega); rw [Hv.out] at this; exact this
          have hv0' : ((v : Int) == 0) = false := by rw [beq_eq_false_iff_ne]; omega
          go_wp2_with fail
          go_loopw [4, 6] (fun r n w' => w' = wr ∧ ∃ i : Nat, D.length ≤ i ∧ i ≤ 20 ∧ r = .int .i64 (i : Int) ∧ n = .int .u64 (preV D i : Int) ∧ ∀ j, j < i → preV D j < 2 ^ k) (fun r _ _ => 20 - (intOf r).toNat)
          case atStart => exact ⟨rfl, i, by omega, hi20, rfl, by rw [Hv.out], Hlt.out⟩
          case round =>
            clear Hlt Hv1 Hv hv0 hv0' hge hq hi20 hiD
            obtain ⟨rfl, i, hiD, hi20, rfl, rfl, hlt⟩ := hrel
            have Hlt := Lib.hid hlt
            clear hlt
            generalize hv : preV D i = v at *
            have Hv := Lib.hid hv
            clear hv
            by_cases hge : 2 ^ k ≤ v
            · have hq : ((v : Int) / 2 ^ k == 0) = false := by rw [shr0]; exact decide_eq_false (by omega)
              go_wp2_with fail
              go_meet
              case rel => exact ⟨rfl, i, rfl, by rw [Hv.out], by rw [Hv.out]; exact hge, Hlt.out⟩
            · have hq : ((v : Int) / 2 ^ k == 0) = true := by rw [shr0]; exact decide_eq_true (by omega)
              have Hv1 : Hid (∀ j, j < i + 1 → preV D j < 2 ^ k) := Lib.hid fun j hj => by
                rcases Nat.lt_or_ge j i with h' | h'
                · exact Hlt.out j h'
                · rw [show j = i by omega, Hv.out]; omega
              have hst : preV D (i + 1) = v * 10 := by simp only [preV]; rw [Hv.out, exD, if_neg (by omega)]; rfl
              have Hst := Lib.hid hst
              clear hst
              have hi21 := Hrb.out (i + 1) Hv1.out
              go_wp2_with fail
              go_roundw
              case rel => exact ⟨trivial, i + 1, by omega, hi21, by go_num, by rw [Hst.out]; go_num, Hv1.out⟩
              case measure => simp [intOf]; omega
  case rest =>
    obtain ⟨rfl, R, rfl, rfl, hge, hlt⟩ := hcut
    have hR20 := Hrb.out R hlt
    have hRe := rsR_eq k D R hR20 hge hlt
    have hR1 : 1 ≤ R := by
      rcases R with _ | R
      · have : 0 < 2 ^ k := Nat.pow_pos (by decide)
        simp [preV] at hge
      · omega
    have hRlt : preV D R < 10 * 2 ^ k := by
      obtain ⟨r, rfl⟩ : ∃ r, R = r + 1 := ⟨R - 1, by omega⟩
      have := hlt r (by omega)
      have := Hex.out r
      simp only [preV]; omega
    have hNlt := rsN_lt k D hD R hRlt
    have hN0 : rsN k D R 0 = preV D R := rfl
    rw [← hN0]
    have cp := h.cellDp
    have f1 := h.frozen 801
    have hI : RightMid a k D R (dp - (R - 1)) tr (wc.setCell ⟨a, 801, none⟩ (.int .i64 (dp - (R - 1)))) 0 (wc.setCell ⟨a, 801, none⟩ (.int .i64 (dp - (R - 1)))) :=
      ⟨P, h.setDp _, fun i _ hi => hP i hi, fun q hq => absurd hq (Nat.not_lt_zero _), Onl.refl _ _⟩
    have HI := Lib.hid hI
    have HRe := Lib.hid hRe
    have HNlt := Lib.hid hNlt
    clear hI hRe hge hlt hNlt hN0 hRlt
    have Hh := Lib.hid h
    clear h
    go_wp2_with fail
    generalize hw1 : wc.setCell ⟨a, 801, none⟩ (.int .i64 (dp - (R - 1))) = w1 at *
    have Hw1 := Lib.hid hw1
    clear hw1
    go_loopw [4, 5, 6] (fun r v n wr => ∃ i : Nat, (i = 0 ∨ R + i ≤ D.length) ∧ r = .int .i64 ((R + i : Nat) : Int) ∧ v = .int .i64 (i : Int) ∧ n = .int .u64 (rsN k D R i : Int) ∧ RightMid a k D R (dp - (R - 1)) tr w1 i wr) (fun r _ _ _ => D.length - (intOf r).toNat)
    case atStart => exact ⟨0, Or.inl rfl, by go_num, rfl, rfl, HI.out⟩
    case round =>
      obtain ⟨i, hi, rfl, rfl, rfl, hm⟩ := hrel
      by_cases hiD : R + i < D.length
      · obtain ⟨P1, hm1, hm2, hm3, hm4⟩ := id hm
        have c1 : wr.cell? ⟨a, R + i, none⟩ = some (.int .u8 (48 + (exD D (R + i) : Int))) := by
          rw [hm1.cell (R + i) (by omega), hm2 (R + i) (by omega) hiD, ← hP (R + i) hiD]
          have := Hce.out (R + i) hiD
          rw [Hh.out.cell (R + i) (by omega)] at this
          exact this
        have cn := hm1.cellNd
        have f2 := hm1.frozen i
        have c2 := hm1.cell i (by omega)
        have hv10 := HNlt.out i
        generalize hv : rsN k D R i = v at *
        have hx9 := Hex.out (R + i)
        generalize hx : exD D (R + i) = x at *
        have Hv := Lib.hid hv
        have Hm := Lib.hid hm
        have Hx := Lib.hid hx
        clear hv hm hm1 hm2 hm3 hm4 hx
        obtain ⟨hoc, ho9⟩ := rsOut_cell k D R i v Hv.out hv10
        have Hoc := Lib.hid hoc
        clear hoc
        have hmlt : v % 2 ^ k < 1152921504606846976 := Nat.lt_of_lt_of_le (Nat.mod_lt _ (Nat.pow_pos (by decide))) hp60
        go_wp2_with fail
        rw [mask_num v k (by omega) hp60, next_num _ _ hmlt hx9, out_num v k ho9]
        go_roundw
        case rel => exact ⟨i + 1, Or.inr (by omega), by go_num, by go_num, by show _ = Value.int .u64 ((rsN k D R i % 2 ^ k * 10 + exD D (R + i) : Nat) : Int); rw [Hv.out, Hx.out], Hm.out.store (by omega) _ Hoc.out⟩
        case measure => simp [intOf]; omega
      · have hMD : D.length ≤ R + i := by omega
        have hM8 : i ≤ 800 := by omega
        have Hm := Lib.hid hm
        clear hm
        have cn := Hm.out
        obtain ⟨P1, hm1, hm2, hm3, hm4⟩ := cn
        have cn := hm1.cellNd
        clear hm1 hm2 hm3 hm4 P1
        have hz0 := rsN_zero k D R i hMD
        have Hz0 := Lib.hid hz0
        clear hz0
        go_wp2_with fail
        generalize hMM : i = M at *
        have HM := Lib.hid hMM
        clear hMM
        go_loopg [5, 6] (k + 1) (fun g v n wr => ∃ t : Nat, g = k + 1 - t ∧ t ≤ k + 1 ∧ v = .int .i64 ((min (M + t) 800 : Nat) : Int) ∧ n = .int .u64 (rsN k D R (M + t) : Int) ∧ (∀ j, j < t → rsN k D R (M + j) ≠ 0) ∧ RightMid a k D R (dp - (R - 1)) tr w1 (M + t) wr)
        case atStart => exact ⟨0, by omega, by omega, by rw [show min (M + 0) 800 = M by omega], rfl, fun j hj => absurd hj (Nat.not_lt_zero _), Hm.out⟩
        case round =>
          clear Hm cn
          obtain ⟨t, hg, ht, rfl, rfl, hnz, hm⟩ := hrel
          have hv10 := HNlt.out (M + t)
          have hst : rsN k D R (M + (t + 1)) = rsN k D R (M + t) % 2 ^ k * 10 := by
            show rsN k D R (M + t) % 2 ^ k * 10 + exD D (R + (M + t)) = _
            rw [exD, if_neg (by omega)]; rfl
          obtain ⟨P1, hm1, hm2, hm3, hm4⟩ := id hm
          have Hg := Lib.hid hg
          have Hnz := Lib.hid hnz
          have Hm := Lib.hid hm
          have Hm1 := Lib.hid hm1
          generalize hv : rsN k D R (M + t) = v at *
          have Hv := Lib.hid hv
          have Hst := Lib.hid hst
          have f1 := hm1.frozen 800
          have f2 := hm1.frozen 803
          have f3 := hm1.frozen (M + t)
          have c3 := hm1.cellTr
          have cn := hm1.cellNd
          clear hg hnz hm hv hst hm1 hm2 hm3 hm4
          by_cases hv0 : 0 < v
          · have hnz1 : Hid (∀ j, j < t + 1 → rsN k D R (M + j) ≠ 0) := Lib.hid fun j hj => by
              rcases Nat.lt_or_ge j t with h' | h'
              · exact Hnz.out j h'
              · rw [show j = t by omega, Hv.out]; omega
            have htk : t ≤ k := by
              rcases Nat.lt_or_ge k t with h' | h'
              · exfalso
                have e : M + k + 1 = M + t := by omega
                have := Hz0.out
                rw [e, Hv.out] at this
                omega
              · exact h'
            obtain ⟨hoc, ho9⟩ := rsOut_cell k D R (M + t) v Hv.out hv10
            have Hoc := Lib.hid hoc
            clear hoc
            have hmlt : v % 2 ^ k < 1152921504606846976 := Nat.lt_of_lt_of_le (Nat.mod_lt _ (Nat.pow_pos (by decide))) hp60
            by_cases h8 : M + t < 800
            · have c2 := Hm1.out.cell (M + t) h8
              rw [show min (M + t) 800 = M + t by omega]
              go_wp2_with fail
              rw [mask_num v k (by omega) hp60, next0_num _ hmlt, out_num v k ho9]
              go_roundg (k - t)
              case measure => have := Hg.out; omega
              case rel => exact ⟨t + 1, by omega, by omega, by rw [show min (M + (t + 1)) 800 = M + t + 1 by omega]; go_num, by rw [Hst.out], hnz1.out, Hm.out.store h8 _ Hoc.out⟩
            · rw [show min (M + t) 800 = 800 by omega]
              by_cases hz : v / 2 ^ k = 0
              · have hz' : decide ((v : Int) / 2 ^ k > 0) = false := by rw [idiv_pow, hz]; rfl
                go_wp2_with fail
                rw [mask_num v k (by omega) hp60, next0_num _ hmlt]
                go_roundg (k - t)
                case measure => have := Hg.out; omega
                case rel => exact ⟨t + 1, by omega, by omega, by rw [show min (M + (t + 1)) 800 = 800 by omega], by rw [Hst.out], hnz1.out, Hm.out.skip (by omega) (by rw [Hv.out]; exact hz)⟩
              · have hz' : decide ((v : Int) / 2 ^ k > 0) = true := by rw [idiv_pow]; exact decide_eq_true (Int.natCast_pos.2 (Nat.pos_of_ne_zero hz))
                go_wp2_with fail
                rw [mask_num v k (by omega) hp60, next0_num _ hmlt]
                go_roundg (k - t)
                case measure => have := Hg.out; omega
                case rel => exact ⟨t + 1, by omega, by omega, by rw [show min (M + (t + 1)) 800 = 800 by omega], by rw [Hst.out], hnz1.out, Hm.out.flag (by omega) (by rw [Hv.out]; exact hz)⟩
          · have hv00 : v = 0 := by omega
            subst hv00
            have hT := rsT_eq k hk60 D hl R (M + t) (by omega) Hv.out (fun j hj hjD => by
              obtain ⟨j', rfl⟩ : ∃ j', j = M + j' := ⟨j - M, by omega⟩
              exact Hnz.out j' (by omega))
            have hLe : rightL k D = (List.range (min 800 (M + t))).map (rsOut k D R) := by unfold rightL; rw [HRe.out, hT]
            have hTr : rightTr k D tr = rsTr k D R tr (M + t) := by unfold rightTr; rw [HRe.out, hT]
            have hLl : (rightL k D).length = min 800 (M + t) := by rw [hLe]; simp
            obtain ⟨P2, hd1, _, hd3, hd4⟩ := Hm.out
            rw [← hTr] at hd1
            have hBg : Begins P2 (rightL k D) := fun j hj => by
              rw [hLl] at hj
              rw [hd3 j (by omega) (by omega), hLe]
              simp [List.getD_eq_getElem?_getD, List.getElem?_map, List.getElem?_range (show j < min 800 (M + t) by omega)]
            have Hd1 := Lib.hid hd1
            have Hd4 := Lib.hid hd4
            have HLl := Lib.hid hLl
            have HBg := Lib.hid hBg
            clear hd1 hd3 hd4 hLl hLe hTr hT hBg
            have hmn : ((min (M + t) 800 : Nat) : Int) = ((rightL k D).length : Int) := by rw [HLl.out]; omega
            rw [hmn]
            clear hmn
            go_wp2_with (go_at_call 115; refine (trim_c a P2 (rightL k D) (dp - (R - 1)) (rightTr k D tr) _ (Hd1.out.setNd _) (by rw [HLl.out]; omega) HBg.out).mono ?_; rintro e w' ⟨rfl, hd, ho⟩)
            go_end0
            exact ⟨rfl, ⟨P2, by rw [HRe.out]; exact hd, HBg.out.take _⟩, by
              have h1 := (Hd4.out.set _ _).trans ho
              rw [← Hw1.out] at h1
              exact ((Onl.refl a wc).set _ _).trans h1⟩
end Go.Proofs.YtfbgnonnbcejkaaGreatDoor
namespace Go.Proofs.YtfbgnonnbcejkaaGreatDoor
open Go.RowKit
open Go.Lib (decDigits nDigits dg decDigits_length)

/-- A decimal: digits, point, flag. -/
structure Dec where
  D : List UInt8
  dp : Int
  tr : Bool
/-- Digits that begin with no zero. -/
def Good (l : List UInt8) : Prop := (∃ b l', l = b :: l' ∧ b ≠ 48) ∧ AllDig l ∧ l.length ≤ 800
def DecIs (w : World) (a : Nat) (d : Dec) : Prop := ∃ P, DecM w a P d.D.length d.dp d.tr ∧ Begins P d.D
def shlD (k : Nat) (d : Dec) : Dec := ⟨stripZ (leftL k d.D), d.dp + deltaF k d.D, leftTr k d.D d.tr⟩
def shrD (k : Nat) (d : Dec) : Dec := ⟨stripZ (rightL k d.D), d.dp - (rsR k d.D - 1), rightTr k d.D d.tr⟩
def shN (f : Nat → Dec → Dec) : Nat → Nat → Dec → Dec
  | 0, _, d => d
  | n + 1, k, d => if 60 < k then shN f n (k - 60) (f 60 d) else f k d
def shiftD (k : Int) (d : Dec) : Dec := if 0 < k then shN shlD k.toNat k.toNat d else if k < 0 then shN shrD (-k).toNat (-k).toNat d else d

theorem stripLen_pos (b : UInt8) (l : List UInt8) (hb : b ≠ 48) : ∀ n, 1 ≤ n → 1 ≤ stripLen (b :: l) n
  | 0, h => absurd h (by decide)
  | 1, _ => by
    show 1 ≤ if (b :: l).getD 0 0 = 48 then stripLen (b :: l) 0 else 0 + 1
    rw [if_neg (show ¬ (b :: l).getD 0 0 = 48 from hb)]
    exact Nat.le_refl _
  | n + 2, _ => by
    show 1 ≤ if (b :: l).getD (n + 1) 0 = 48 then stripLen (b :: l) (n + 1) else n + 1 + 1
    split
    · exact stripLen_pos b l hb (n + 1) (by omega)
    · omega
theorem stripZ_mem (l : List UInt8) (h : AllDig l) : AllDig (stripZ l) := fun b hb => h b (List.mem_of_mem_take hb)
theorem stripZ_le (l : List UInt8) : (stripZ l).length ≤ l.length := by rw [stripZ_length]; exact stripLen_le _ _
theorem Good.strip {l : List UInt8} (h : Good l) : Good (stripZ l) := by
  obtain ⟨⟨b, l', rfl, hb⟩, hd, hl⟩ := h
  refine ⟨?_, stripZ_mem _ hd, Nat.le_trans (stripZ_le _) hl⟩
  have := stripLen_pos b l' hb (b :: l').length (by simp)
  obtain ⟨m, hm⟩ : ∃ m, stripLen (b :: l') (b :: l').length = m + 1 := ⟨stripLen (b :: l') (b :: l').length - 1, by omega⟩
  refine ⟨b, l'.take m, ?_, hb⟩
  unfold stripZ
  rw [hm]; rfl
theorem Good.pos {l : List UInt8} (h : Good l) : 1 ≤ l.length := by
  obtain ⟨⟨b, l', rfl, hb⟩, _⟩ := h
  simp
theorem Good.trim {l : List UInt8} (h : Good l) (dp : Int) : trimDp l dp = dp := by
  have := h.strip.pos
  unfold trimDp
  rw [if_neg (by omega)]
theorem good_dec (v : Nat) (hv : 0 < v) (hl : nDigits v ≤ 800) : Good (decDigits v) := by
  obtain ⟨b, l, h1, h2⟩ := decDigits_head v hv
  exact ⟨⟨b, l, h1, h2⟩, decDigits_dig v, by rw [decDigits_length]; exact hl⟩
theorem Good.left {l : List UInt8} (h : Good l) (k : Nat) : Good (leftL k l) := by
  obtain ⟨⟨b, l', rfl, hb⟩, hd, hl⟩ := h
  have hv := val_ge (l := l') (hd b List.mem_cons_self) hb
  have hX : 0 < val (b :: l') * 2 ^ k := Nat.mul_pos (Nat.lt_of_lt_of_le (Nat.pow_pos (by decide)) hv) (Nat.pow_pos (by decide))
  obtain ⟨c, m, h1, h2⟩ := decDigits_head _ hX
  refine ⟨⟨c, m.take 799, ?_, h2⟩, ?_, ?_⟩
  · unfold leftL; rw [h1]; rfl
  · intro x hx
    exact decDigits_dig _ x (List.mem_of_mem_take hx)
  · unfold leftL; rw [List.length_take]; omega
theorem rs_facts {l : List UInt8} (h : Good l) (k : Nat) (h60 : k ≤ 60) : 1 ≤ rsR k l ∧ rsR k l ≤ 20 ∧ 2 ^ k ≤ preV l (rsR k l) ∧ preV l (rsR k l) < 10 * 2 ^ k := by
  obtain ⟨⟨b, l', hbl, hb⟩, hd, hl⟩ := h
  have hbd : IsDig b := hd b (by rw [hbl]; exact List.mem_cons_self)
  have hex : ∃ r, 2 ^ k ≤ preV l r := by
    refine ⟨20, ?_⟩
    have h1 := preV_ge b l' hbd hb 19
    rw [← hbl] at h1
    have h3 := pow60 k h60
    have h2 : (10 : Nat) ^ 19 = 10000000000000000000 := by decide
    have h4 : preV l (19 + 1) = preV l 20 := rfl
    omega
  have hleast : ∃ r, 2 ^ k ≤ preV l r ∧ ∀ j, j < r → preV l j < 2 ^ k := by
    obtain ⟨r, hr, hm⟩ := exists_least hex
    exact ⟨r, hr, fun j hj => by
      rcases Nat.lt_or_ge (preV l j) (2 ^ k) with h' | h'
      · exact h'
      · have := hm j h'; omega⟩
  obtain ⟨r, hr, hlt⟩ := hleast
  have h20 := rs_below k h60 b l' hbd hb r (by rw [← hbl]; exact hlt)
  have he := rsR_eq k l r h20 hr hlt
  have hR1 : 1 ≤ r := by
    rcases r with _ | r
    · have : 0 < 2 ^ k := Nat.pow_pos (by decide)
      simp [preV] at hr
    · omega
  refine ⟨by omega, by omega, by rw [he]; exact hr, ?_⟩
  rw [he]
  obtain ⟨r, rfl⟩ : ∃ r', r = r' + 1 := ⟨r - 1, by omega⟩
  have := hlt r (by omega)
  have := exD_le l hd r
  simp only [preV]; omega
theorem Good.right {l : List UInt8} (h : Good l) (k : Nat) (h60 : k ≤ 60) : Good (rightL k l) := by
  obtain ⟨h1, h2, h3, h4⟩ := rs_facts h k h60
  have hd := h.2.1
  have hN := rsN_lt k l hd _ h4
  have hT : 1 ≤ rsT k l (rsR k l) := by
    unfold rsT least
    generalize hp : (fun i => decide (l.length ≤ rsR k l + i ∧ rsN k l (rsR k l) i = 0)) = p
    rcases hf : (List.range 900).find? p with _ | i
    · simp
    · have := List.find?_some hf
      rw [← hp] at this
      simp only [decide_eq_true_eq] at this
      rcases i with _ | i
      · exfalso
        have h5 := this.2
        have : 0 < 2 ^ k := Nat.pow_pos (by decide)
        have h6 : rsN k l (rsR k l) 0 = preV l (rsR k l) := rfl
        omega
      · simp
  have hlen : (rightL k l).length = min 800 (rsT k l (rsR k l)) := by simp [rightL]
  refine ⟨?_, ?_, ?_⟩
  · obtain ⟨m, hm⟩ : ∃ m, min 800 (rsT k l (rsR k l)) = m + 1 := ⟨min 800 (rsT k l (rsR k l)) - 1, by omega⟩
    refine ⟨rsOut k l (rsR k l) 0, (List.range m).map (fun i => rsOut k l (rsR k l) (i + 1)), ?_, ?_⟩
    · unfold rightL
      rw [hm, List.range_succ_eq_map, List.map_cons, List.map_map]; rfl
    · intro e
      obtain ⟨ho, _⟩ := rsOut_toNat k l (rsR k l) 0 (hN 0)
      rw [e] at ho
      have h6 : rsN k l (rsR k l) 0 = preV l (rsR k l) := rfl
      rw [h6] at ho
      have : 1 ≤ preV l (rsR k l) / 2 ^ k := (Nat.le_div_iff_mul_le (Nat.pow_pos (by decide))).2 (by omega)
      have h7 : (48 : UInt8).toNat = 48 := rfl
      omega
  · intro x hx
    unfold rightL at hx
    simp only [List.mem_map] at hx
    obtain ⟨i, _, rfl⟩ := hx
    obtain ⟨ho, h9⟩ := rsOut_toNat k l (rsR k l) i (hN i)
    unfold IsDig
    rw [ho]
    generalize rsN k l (rsR k l) i / 2 ^ k = q at *
    omega
  · omega
theorem deltaF_le (k : Nat) (h1 : 1 ≤ k) (h60 : k ≤ 60) (l : List UInt8) : deltaF k l ≤ 19 := by
  obtain ⟨_, _, _, _, _, _, _, h, _⟩ := cheat_row k h1 h60
  unfold deltaF; omega

theorem leftShift_d {B : Nat} (a k : Nat) (d : Dec) (w : World) (T : Tabs B w) (h : DecIs w a d) (hg : Good d.D) (hk1 : 1 ≤ k) (hk60 : k ≤ 60) (hdp0 : -100000 ≤ d.dp) (hdp1 : d.dp ≤ 100000) :
    Calls Tryz.prog 116 #[.pointer (some ⟨a, 0, none⟩), .int .u64 k] w fun e w' => e = .returned (.tuple #[]) ∧ DecIs w' a (shlD k d) ∧ Onl a w w' := by
  obtain ⟨P, hm, hB⟩ := h
  obtain ⟨⟨b, l', hbl, hb⟩, hd, hl⟩ := id hg
  refine (leftShift_c a k P b l' d.D hbl d.dp d.tr w T hm hB hd hb hl hk1 hk60 hdp0 hdp1).mono ?_
  rintro e w' ⟨rfl, ⟨P', h1, h2⟩, h3⟩
  rw [(hg.left k).trim] at h1
  exact ⟨rfl, ⟨P', h1, h2⟩, h3⟩
theorem rightShift_d (a k : Nat) (d : Dec) (w : World) (h : DecIs w a d) (hg : Good d.D) (hk1 : 1 ≤ k) (hk60 : k ≤ 60) (hdp0 : -100000 ≤ d.dp) (hdp1 : d.dp ≤ 100000) :
    Calls Tryz.prog 117 #[.pointer (some ⟨a, 0, none⟩), .int .u64 k] w fun e w' => e = .returned (.tuple #[]) ∧ DecIs w' a (shrD k d) ∧ Onl a w w' := by
  obtain ⟨P, hm, hB⟩ := h
  obtain ⟨⟨b, l', hbl, hb⟩, hd, hl⟩ := id hg
  refine (rightShift_c a k P b l' d.D hbl d.dp d.tr w hm hB hd hb hl hk1 hk60 hdp0 hdp1).mono ?_
  rintro e w' ⟨rfl, ⟨P', h1, h2⟩, h3⟩
  rw [(hg.right k hk60).trim] at h1
  refine ⟨rfl, ⟨P', ?_, ?_⟩, h3⟩
  · unfold shrD
    dsimp only
    exact h1
  · unfold shrD
    dsimp only
    exact h2
end Go.Proofs.YtfbgnonnbcejkaaGreatDoor
namespace Go.Proofs.YtfbgnonnbcejkaaGreatDoor
open Go.RowKit

theorem shrD_D (k : Nat) (d : Dec) : (shrD k d).D = stripZ (rightL k d.D) := by unfold shrD; dsimp only
theorem shrD_dp (k : Nat) (d : Dec) : (shrD k d).dp = d.dp - (rsR k d.D - 1) := by unfold shrD; dsimp only
theorem DecIs.nd {w : World} {a : Nat} {d : Dec} (h : DecIs w a d) : w.cell? ⟨a, 800, none⟩ = some (.int .i64 (d.D.length : Int)) := by
  obtain ⟨P, h1, _⟩ := h
  exact h1.cellNd
theorem shN_step (f : Nat → Dec → Dec) (n k : Nat) (d : Dec) (h : 60 < k) : shN f (n + 1) k d = shN f n (k - 60) (f 60 d) := by simp only [shN]; rw [if_pos h]
theorem shN_last (f : Nat → Dec → Dec) (n k : Nat) (d : Dec) (h : ¬ 60 < k) : shN f (n + 1) k d = f k d := by simp only [shN]; rw [if_neg h]

set_option maxHeartbeats 1600000 in
theorem shift_c {B : Nat} (a : Nat) (k : Int) (d : Dec) (w : World) (T : Tabs B w) (haB : B ≤ a) (h : DecIs w a d) (hg : Good d.D) (hk0 : -2000 ≤ k) (hk1 : k ≤ 2000) (hdp0 : -2000 ≤ d.dp) (hdp1 : d.dp ≤ 2000) :
    Calls Tryz.prog 97 #[.pointer (some ⟨a, 0, none⟩), .int .i64 k] w fun e w' => e = .returned (.tuple #[]) ∧
      (DecIs w' a (shiftD k d) ∧ Good (shiftD k d).D ∧ 3 * (shiftD k d).dp ≤ 3 * d.dp + 2060 ∧ 3 * d.dp - 2060 ≤ 3 * (shiftD k d).dp) ∧ Onl a w w' := by
  have n0 := h.nd
  have hL0 : ((d.D.length : Int) == 0) = false := by have := hg.pos; rw [beq_eq_false_iff_ne]; omega
  generalize (d.D.length : Int) = L at n0 hL0
  have H := Lib.hid h
  have Hg := Lib.hid hg
  clear h hg
  rcases Int.lt_trichotomy k 0 with hk | hk | hk
  · obtain ⟨n, rfl⟩ : ∃ n : Nat, k = -(n : Int) := ⟨(-k).toNat, by omega⟩
    have e : shiftD (-(n : Int)) d = shN shrD n n d := by unfold shiftD; rw [if_neg (by omega), if_pos (by omega)]; simp
    have He := Lib.hid e
    clear e
    have hnn : 0 < n := by omega
    have hk3 : decide (-(n : Int) > 0) = false := decide_eq_false (by omega)
    have hk4 : decide (-(n : Int) < 0) = true := decide_eq_true (by omega)
    go_enter Tryz.func97, Tryz.ntmps97
    go_wp2
    go_loopw [1] (fun u wr => ∃ (m k' : Nat) (d' : Dec), u = .int .i64 (-(k' : Int)) ∧ 1 ≤ k' ∧ k' ≤ n ∧ k' ≤ m ∧ shN shrD m k' d' = shN shrD n n d ∧ DecIs wr a d' ∧ Good d'.D ∧ Onl a w wr ∧ d'.dp ≤ d.dp ∧ 3 * d.dp - (n - k') ≤ 3 * d'.dp) (fun u _ => (-intOf u).toNat)
    case atStart => exact ⟨n, n, d, rfl, by omega, Nat.le_refl _, Nat.le_refl _, rfl, H.out, Hg.out, Onl.refl _ _, by omega, by omega⟩
    case round =>
      obtain ⟨m, k', d', rfl, hk1', hk2, hk3, hs, hd, hg, ho, hb1, hb2⟩ := hrel
      obtain ⟨m, rfl⟩ : ∃ m', m = m' + 1 := ⟨m - 1, by omega⟩
      have Hs := Lib.hid hs
      have Hd := Lib.hid hd
      have Hgd := Lib.hid hg
      have Ho := Lib.hid ho
      clear hs hd hg ho
      by_cases h60 : 60 < k'
      · obtain ⟨f1, f2, _, _⟩ := rs_facts Hgd.out 60 (by omega)
        go_wp2_with (go_at_call 117; refine (rightShift_d a 60 d' _ Hd.out Hgd.out (by omega) (by omega) (by omega) (by omega)).mono ?_; rintro e w' ⟨rfl, hd2, ho2⟩; have Hd2 := Lib.hid hd2; clear hd2)
        go_roundw
        case rel =>
          have hdp := shrD_dp 60 d'
          exact ⟨m, k' - 60, shrD 60 d', by congr 1; omega, by omega, by omega, by omega, by rw [← Hs.out, shN_step _ _ _ _ h60], Hd2.out, by rw [shrD_D]; exact (Hgd.out.right 60 (by omega)).strip, Ho.out.trans ho2, by omega, by omega⟩
        case measure => simp [intOf]; omega
      · obtain ⟨f1, f2, _, _⟩ := rs_facts Hgd.out k' (by omega)
        go_wp2_with (go_at_call 117; refine (rightShift_d a k' d' _ Hd.out Hgd.out (by omega) (by omega) (by omega) (by omega)).mono ?_; rintro e w' ⟨rfl, hd2, ho2⟩)
        go_end0
        have hdp := shrD_dp k' d'
        have e : shiftD (-(n : Int)) d = shrD k' d' := by rw [He.out, ← Hs.out, shN_last _ _ _ _ h60]
        rw [e]
        have hgr := (Hgd.out.right k' (by omega)).strip
        refine ⟨rfl, ⟨hd2, ?_, by omega, by omega⟩, Ho.out.trans ho2⟩
        rw [shrD_D]
        exact hgr
  · subst hk
    have e : shiftD 0 d = d := rfl
    rw [e]
    go_enter Tryz.func97, Tryz.ntmps97
    go_wp2
    go_end0
    exact ⟨rfl, ⟨H.out, Hg.out, by omega, by omega⟩, Onl.refl _ _⟩
  · obtain ⟨n, rfl⟩ : ∃ n : Nat, k = (n : Int) := ⟨k.toNat, by omega⟩
    have e : shiftD (n : Int) d = shN shlD n n d := by unfold shiftD; rw [if_pos (by omega)]; simp
    have He := Lib.hid e
    clear e
    have hnn : 0 < n := by omega
    have hk3 : decide ((n : Int) > 0) = true := decide_eq_true (by omega)
    have hk4 : decide ((n : Int) < 0) = false := decide_eq_false (by omega)
    go_enter Tryz.func97, Tryz.ntmps97
    go_wp2
    go_loopw [1] (fun u wr => ∃ (m k' : Nat) (d' : Dec), u = .int .i64 (k' : Int) ∧ 1 ≤ k' ∧ k' ≤ n ∧ k' ≤ m ∧ shN shlD m k' d' = shN shlD n n d ∧ DecIs wr a d' ∧ Good d'.D ∧ Onl a w wr ∧ d.dp ≤ d'.dp ∧ 3 * d'.dp ≤ 3 * d.dp + (n - k')) (fun u _ => (intOf u).toNat)
    case atStart => exact ⟨n, n, d, rfl, by omega, Nat.le_refl _, Nat.le_refl _, rfl, H.out, Hg.out, Onl.refl _ _, by omega, by omega⟩
    case round =>
      obtain ⟨m, k', d', rfl, hk1', hk2, hk3, hs, hd, hg, ho, hb1, hb2⟩ := hrel
      obtain ⟨m, rfl⟩ : ∃ m', m = m' + 1 := ⟨m - 1, by omega⟩
      have Hs := Lib.hid hs
      have Hd := Lib.hid hd
      have Hgd := Lib.hid hg
      have Ho := Lib.hid ho
      have Tr := T.below ((ho.below).mono haB)
      clear hs hd hg ho
      by_cases h60 : 60 < k'
      · have f1 := deltaF_le 60 (by omega) (by omega) d'.D
        go_wp2_with (go_at_call 116; refine (leftShift_d a 60 d' _ Tr Hd.out Hgd.out (by omega) (by omega) (by omega) (by omega)).mono ?_; rintro e w' ⟨rfl, hd2, ho2⟩; have Hd2 := Lib.hid hd2; clear hd2)
        go_roundw
        case rel =>
          have hdp : (shlD 60 d').dp = d'.dp + deltaF 60 d'.D := rfl
          exact ⟨m, k' - 60, shlD 60 d', by congr 1; omega, by omega, by omega, by omega, by rw [← Hs.out, shN_step _ _ _ _ h60], Hd2.out, (Hgd.out.left 60).strip, Ho.out.trans ho2, by omega, by omega⟩
        case measure => simp [intOf]; omega
      · have f1 := deltaF_le k' (by omega) (by omega) d'.D
        go_wp2_with (go_at_call 116; refine (leftShift_d a k' d' _ Tr Hd.out Hgd.out (by omega) (by omega) (by omega) (by omega)).mono ?_; rintro e w' ⟨rfl, hd2, ho2⟩)
        go_end0
        have hdp : (shlD k' d').dp = d'.dp + deltaF k' d'.D := rfl
        have e : shiftD (n : Int) d = shlD k' d' := by rw [He.out, ← Hs.out, shN_last _ _ _ _ h60]
        rw [e]
        exact ⟨rfl, ⟨hd2, (Hgd.out.left k').strip, by omega, by omega⟩, Ho.out.trans ho2⟩
end Go.Proofs.YtfbgnonnbcejkaaGreatDoor
namespace Go.Proofs.YtfbgnonnbcejkaaGreatDoor
open Go.RowKit

/-- Does the rounding at n go up. -/
def upAt (d : Dec) (n : Nat) : Bool :=
  if (d.D.getD n 0).toNat = 53 ∧ n + 1 = d.D.length then (if d.tr then true else if 0 < n then ((((d.D.getD (n - 1) 0).toNat : Int) - 48) % 2 != 0) else false) else decide (53 ≤ (d.D.getD n 0).toNat)
/-- The digits, the last of n made greater by one. -/
def upL (D : List UInt8) : Nat → Option (List UInt8)
  | 0 => none
  | i + 1 => if (D.getD i 0).toNat < 57 then some (D.take i ++ [UInt8.ofNat ((D.getD i 0).toNat + 1)]) else upL D i
def upD (d : Dec) (n : Nat) : Dec := match upL d.D n with
  | some l => ⟨l, d.dp, d.tr⟩
  | none => ⟨[49], d.dp + 1, d.tr⟩
def downD (d : Dec) (n : Nat) : Dec := ⟨stripZ (d.D.take n), trimDp (d.D.take n) d.dp, d.tr⟩
def roundD (d : Dec) (n : Int) : Dec := if n < 0 ∨ (d.D.length : Int) ≤ n then d else if upAt d n.toNat then upD d n.toNat else downD d n.toNat

theorem digAt {D : List UInt8} (h : AllDig D) (i : Nat) (hi : i < D.length) : 48 ≤ (D.getD i 0).toNat ∧ (D.getD i 0).toNat ≤ 57 := by
  rw [List.getD_eq_getElem?_getD, List.getElem?_eq_getElem hi]
  exact h _ (List.getElem_mem hi)

set_option maxHeartbeats 1600000 in
theorem upAt_c (a n : Nat) (d : Dec) (w : World) (h : DecIs w a d) (hg : AllDig d.D) (hl : d.D.length ≤ 800) (hn : n < d.D.length) :
    Calls Tryz.prog 118 #[.pointer (some ⟨a, 0, none⟩), .int .i64 n] w fun e w' => e = .returned (.bool (upAt d n)) ∧ w' = w := by
  obtain ⟨P, hm, hB⟩ := h
  have n0 := hm.cellNd
  have t0 := hm.cellTr
  obtain ⟨hd1, hd2⟩ := digAt hg n hn
  have c1 : w.cell? ⟨a, n, none⟩ = some (.int .u8 ((d.D.getD n 0).toNat : Nat)) := by rw [hm.cell n (by omega), hB n hn]
  have hu : upAt d n = if (d.D.getD n 0).toNat = 53 ∧ n + 1 = d.D.length then (if d.tr then true else if 0 < n then ((((d.D.getD (n - 1) 0).toNat : Int) - 48) % 2 != 0) else false) else decide (53 ≤ (d.D.getD n 0).toNat) := rfl
  have c2 : 0 < n → w.cell? ⟨a, n - 1, none⟩ = some (.int .u8 ((d.D.getD (n - 1) 0).toNat : Nat)) := fun h0 => by rw [hm.cell (n - 1) (by omega), hB (n - 1) (by omega)]
  have hd3 : 0 < n → 48 ≤ (d.D.getD (n - 1) 0).toNat ∧ (d.D.getD (n - 1) 0).toNat ≤ 57 := fun h0 => digAt hg (n - 1) (by omega)
  generalize (d.D.getD (n - 1) 0).toNat = u at *
  generalize (d.D.getD n 0).toNat = v at *
  generalize upAt d n = r at *
  generalize d.D.length = L at *
  generalize d.tr = t at *
  have Hc2 := Lib.hid c2
  clear c2 hm hB hg
  by_cases h5 : v = 53
  · by_cases hL : n + 1 = L
    · rw [if_pos ⟨h5, hL⟩] at hu
      have Hu := Lib.hid hu
      subst h5 hL
      clear hu
      cases t
      · rcases Nat.eq_zero_or_pos n with h0 | h0
        · subst h0
          go_enter Tryz.func118, Tryz.ntmps118
          go_wp2
          go_ret
          exact ⟨ret_bool (by rw [Hu.out]; rfl), rfl⟩
        · obtain ⟨m, rfl⟩ : ∃ m, n = m + 1 := ⟨n - 1, by omega⟩
          have c3 := Hc2.out h0
          obtain ⟨hd4, hd5⟩ := hd3 h0
          rw [Nat.add_sub_cancel] at c3
          clear hd3
          go_enter Tryz.func118, Tryz.ntmps118
          go_wp2
          go_ret
          exact ⟨ret_bool (by rw [Hu.out]; simp), rfl⟩
      · clear hd3
        go_enter Tryz.func118, Tryz.ntmps118
        go_wp2
        go_ret
        exact ⟨ret_bool (by rw [Hu.out]; rfl), rfl⟩
    · rw [if_neg (fun hh => hL hh.2)] at hu
      have Hu := Lib.hid hu
      subst h5
      clear hu hd3
      go_enter Tryz.func118, Tryz.ntmps118
      go_wp2
      go_ret
      exact ⟨ret_bool (by rw [Hu.out]; rfl), rfl⟩
  · rw [if_neg (fun hh => h5 hh.1)] at hu
    have Hu := Lib.hid hu
    have hv : ((v : Int) == 53) = false := by rw [beq_eq_false_iff_ne]; omega
    clear hu hd3
    go_enter Tryz.func118, Tryz.ntmps118
    go_wp2
    go_ret
    exact ⟨ret_bool (by rw [Hu.out]; exact decide_eq_decide.2 (by omega)), rfl⟩

set_option maxHeartbeats 1600000 in
theorem upD_c (a n : Nat) (d : Dec) (w : World) (h : DecIs w a d) (hg : AllDig d.D) (hl : d.D.length ≤ 800) (hn : n < d.D.length) (hdp0 : -100000 ≤ d.dp) (hdp1 : d.dp ≤ 100000) :
    Calls Tryz.prog 119 #[.pointer (some ⟨a, 0, none⟩), .int .i64 n] w fun e w' => e = .returned (.tuple #[]) ∧ DecIs w' a (upD d n) ∧ Onl a w w' := by
  obtain ⟨P, hm, hB⟩ := h
  have n0 := hm.cellNd
  have hgt : decide ((n : Int) < 0) = false := decide_eq_false (by omega)
  have hgt2 : decide ((d.D.length : Int) ≤ n) = false := decide_eq_false (by omega)
  have Hm := Lib.hid hm
  have HB := Lib.hid hB
  clear hm hB
  go_enter Tryz.func119, Tryz.ntmps119
  go_wp2
  go_loopw [4] (fun u wr => wr = w ∧ ∃ i : Nat, i ≤ n ∧ u = .int .i64 ((i : Int) - 1) ∧ upL d.D i = upL d.D n) (fun u _ => (intOf u + 1).toNat)
  case atStart => exact ⟨rfl, n, Nat.le_refl _, by go_num, rfl⟩
  case round =>
    obtain ⟨rfl, i, hi, hu, hup⟩ := hrel
    have Hup := Lib.hid hup
    clear hup
    rcases i with _ | i
    · have hu' := hu.trans (show _ = Value.int .i64 (-1) by rfl)
      clear hu
      subst hu'
      have f0 := Hm.out.frozen 0
      have f1 := Hm.out.frozen 800
      have f2 := Hm.out.frozen 801
      have c0 := Hm.out.cell 0 (by omega)
      have c2 := Hm.out.cellDp
      go_wp2
      go_end0
      have e : upD d n = ⟨[49], d.dp + 1, d.tr⟩ := by unfold upD; rw [← Hup.out]; rfl
      rw [e]
      refine ⟨rfl, ⟨_, ((Hm.out.setD 0 (by omega) _).setNd _).setDp _, fun j hj => ?_⟩, ((Onl.refl _ _).set _ _).set _ _ |>.set _ _⟩
      have : j = 0 := by simp at hj; exact hj
      subst this
      rfl
    · have hu' := hu.trans (show _ = Value.int .i64 ((i : Nat) : Int) by congr 1; omega)
      clear hu
      subst hu'
      obtain ⟨hd1, hd2⟩ := digAt hg i (by omega)
      have c1 : wr.cell? ⟨a, i, none⟩ = some (.int .u8 ((d.D.getD i 0).toNat : Nat)) := by rw [Hm.out.cell i (by omega), HB.out i (by omega)]
      have hst : upL d.D (i + 1) = if (d.D.getD i 0).toNat < 57 then some (d.D.take i ++ [UInt8.ofNat ((d.D.getD i 0).toNat + 1)]) else upL d.D i := rfl
      have f0 := Hm.out.frozen i
      have f1 := Hm.out.frozen 800
      rw [Hup.out] at hst
      generalize hv : (d.D.getD i 0).toNat = v at *
      have Hv := Lib.hid hv
      clear hv
      by_cases h9 : v < 57
      · rw [if_pos h9] at hst
        have Hst := Lib.hid hst
        clear hst
        go_wp2
        go_region
        go_wp2
        (try simp only [Exit.inBlock, Exit.then]); refine bodyPost_ret (results_none rfl _ _ _) rfl ?_
        have e : upD d n = ⟨d.D.take i ++ [UInt8.ofNat (v + 1)], d.dp, d.tr⟩ := by unfold upD; rw [Hst.out]
        rw [e]
        have hl : (d.D.take i ++ [UInt8.ofNat (v + 1)]).length = i + 1 := by rw [List.length_append, List.length_take]; simp; omega
        refine ⟨rfl, ⟨_, by rw [hl]; exact ((Hm.out.setD i (by omega) _).setNd _).drew, fun j hj => ?_⟩, (((Onl.refl _ _).set _ _).set _ _).drew⟩
        rw [hl] at hj
        show (if i = j then _ else P j) = _
        rcases Nat.lt_or_ge j i with h' | h'
        · rw [if_neg (by omega), HB.out j (by omega), List.getD_eq_getElem?_getD, List.getD_eq_getElem?_getD, List.getElem?_append_left (by rw [List.length_take]; omega), List.getElem?_take, if_pos h']
        · have e' : j = i := by omega
          subst e'
          rw [if_pos rfl, List.getD_eq_getElem?_getD, List.getElem?_append_right (by rw [List.length_take]; omega)]
          have : j - (d.D.take j).length = 0 := by rw [List.length_take]; omega
          rw [this]
          show _ = Value.int .u8 (((UInt8.ofNat (v + 1)).toNat : Nat) : Int)
          rw [UInt8.toNat_ofNat', Nat.mod_eq_of_lt (by omega)]
          rfl
      · rw [if_neg h9] at hst
        have Hst := Lib.hid hst
        clear hst
        go_wp2
        go_roundw
        case rel => exact ⟨trivial, i, by omega, by go_num, Hst.out.symm⟩
        case measure => simp [intOf]

set_option maxHeartbeats 1600000 in
theorem downD_c (a n : Nat) (d : Dec) (w : World) (h : DecIs w a d) (hl : d.D.length ≤ 800) (hn : n < d.D.length) :
    Calls Tryz.prog 120 #[.pointer (some ⟨a, 0, none⟩), .int .i64 n] w fun e w' => e = .returned (.tuple #[]) ∧ DecIs w' a (downD d n) ∧ Onl a w w' := by
  obtain ⟨P, hm, hB⟩ := h
  have n0 := hm.cellNd
  have f0 := hm.frozen 800
  have hle : (d.D.take n).length = n := by rw [List.length_take]; omega
  have Hm := Lib.hid hm
  have HB := Lib.hid hB
  have Hle := Lib.hid hle
  clear hm hB hle
  go_enter Tryz.func120, Tryz.ntmps120
  go_wp2_with (go_at_call 115; refine (trim_c a P (d.D.take n) d.dp d.tr _ (by rw [Hle.out]; exact Hm.out.setNd _) (by rw [Hle.out]; omega) (HB.out.take n)).mono ?_; rintro e w' ⟨rfl, hd, ho⟩)
  go_end0
  refine ⟨rfl, ⟨P, ?_, ?_⟩, ((Onl.refl _ _).set _ _).trans ho⟩
  · unfold downD; dsimp only; exact hd
  · unfold downD; dsimp only
    exact (HB.out.take n).take _

theorem upL_len (D : List UInt8) : ∀ n l, n ≤ D.length → upL D n = some l → l.length ≤ n ∧ 1 ≤ l.length
  | 0, l, _, h => by cases h
  | i + 1, l, hn, h => by
    unfold upL at h
    split at h
    · cases h
      rw [List.length_append, List.length_take]
      simp
      omega
    · have := upL_len D i l (by omega) h
      omega

set_option maxHeartbeats 1600000 in
theorem decRound_c (a : Nat) (n : Int) (d : Dec) (w : World) (h : DecIs w a d) (hg : AllDig d.D) (hl : d.D.length ≤ 800) (hdp0 : -100000 ≤ d.dp) (hdp1 : d.dp ≤ 100000) :
    Calls Tryz.prog 98 #[.pointer (some ⟨a, 0, none⟩), .int .i64 n] w fun e w' => e = .returned (.tuple #[]) ∧ DecIs w' a (roundD d n) ∧ Onl a w w' := by
  have n0 := h.nd
  have H := Lib.hid h
  have Hg := Lib.hid hg
  clear h hg
  by_cases hn : n < 0
  · have e : roundD d n = d := by unfold roundD; rw [if_pos (Or.inl hn)]
    rw [e]
    go_enter Tryz.func98, Tryz.ntmps98
    go_wp2
    (try simp only [Exit.inBlock, Exit.then]); refine bodyPost_ret (results_none rfl _ _ _) rfl ?_
    exact ⟨rfl, H.out, Onl.refl _ _⟩
  · by_cases hL : (d.D.length : Int) ≤ n
    · have e : roundD d n = d := by unfold roundD; rw [if_pos (Or.inr hL)]
      rw [e]
      go_enter Tryz.func98, Tryz.ntmps98
      go_wp2
      (try simp only [Exit.inBlock, Exit.then]); refine bodyPost_ret (results_none rfl _ _ _) rfl ?_
      exact ⟨rfl, H.out, Onl.refl _ _⟩
    · obtain ⟨m, rfl⟩ : ∃ m : Nat, n = m := ⟨n.toNat, by omega⟩
      have hm : m < d.D.length := by omega
      have e : roundD d m = if upAt d m then upD d m else downD d m := by unfold roundD; rw [if_neg (by omega)]; rfl
      cases hu : upAt d m
      · rw [hu] at e
        have Hu := Lib.hid hu
        have He := Lib.hid e
        clear hu e
        go_enter Tryz.func98, Tryz.ntmps98
        go_wp2_with (first | (go_at_call 118; refine (upAt_c a m d _ H.out Hg.out hl hm).mono ?_; rintro e w' ⟨rfl, rfl⟩; rw [Hu.out]) | (go_at_call 120; refine (downD_c a m d _ H.out hl hm).mono ?_; rintro e w' ⟨rfl, hd, ho⟩))
        go_end0
        exact ⟨rfl, by rw [He.out]; exact hd, ho⟩
      · rw [hu] at e
        have Hu := Lib.hid hu
        have He := Lib.hid e
        clear hu e
        go_enter Tryz.func98, Tryz.ntmps98
        go_wp2_with (first | (go_at_call 118; refine (upAt_c a m d _ H.out Hg.out hl hm).mono ?_; rintro e w' ⟨rfl, rfl⟩; rw [Hu.out]) | (go_at_call 119; refine (upD_c a m d _ H.out Hg.out hl hm hdp0 hdp1).mono ?_; rintro e w' ⟨rfl, hd, ho⟩))
        go_end0
        exact ⟨rfl, by rw [He.out]; exact hd, ho⟩

/-- How long the digits are behind a rounding, and where the point stands. -/
theorem roundD_range (d : Dec) (n : Int) (hl : 1 ≤ d.D.length) : (roundD d n).D.length ≤ d.D.length ∧ (roundD d n).dp ≤ max (d.dp + 1) 0 ∧ min d.dp 0 ≤ (roundD d n).dp := by
  unfold roundD
  split
  · omega
  · rename_i hn
    split
    · unfold upD
      cases hu : upL d.D n.toNat with
      | none => simp; omega
      | some l =>
        have := upL_len d.D n.toNat l (by omega) hu
        simp
        omega
    · unfold downD
      have := stripZ_le (d.D.take n.toNat)
      rw [List.length_take] at this
      dsimp only
      unfold trimDp
      split <;> omega
end Go.Proofs.YtfbgnonnbcejkaaGreatDoor
