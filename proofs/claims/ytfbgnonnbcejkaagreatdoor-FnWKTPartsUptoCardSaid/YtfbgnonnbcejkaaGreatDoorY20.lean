/- Lemmas on the way to the law FnWKTParts, without conditions beside those that each states: leftShift: the digits of a number times a power of two | Assign: the digits of a number, written into a decimal. -/
import Derived.Test.YtfbgnonnbcejkaaGreatDoorY19
import Derived.Test.YtfbgnonnbcejkaaGreatDoorY18
import Derived.LoopTactic
import Derived.Deep.DeepCutAuto
import Derived.Deep.CutBlock
namespace Go.Proofs.YtfbgnonnbcejkaaGreatDoor
open Go.RowKit
open Go.Lib (decDigits nDigits dg decDigits_length)

theorem Onl.below {a : Nat} {w w' : World} (h : Onl a w w') : Below a w w' :=
  ⟨h.1.os, h.1.tape, h.1.output, h.1.size, fun k hk => by
    rcases Nat.lt_or_ge k w.heap.size with h' | h'
    · exact h.1.block k h' (fun e => by cases e; omega)
    · rw [Array.getElem?_eq_none h', Array.getElem?_eq_none (by rw [h.2]; exact h')]⟩

/-- The two loops' relation: so many digits from the right are written. -/
def LeftInv (a : Nat) (D : List UInt8) (X m : Nat) (dp : Int) (tr : Bool) (w : World) (p : Nat) (wr : World) : Prop :=
  ∃ P, DecM wr a P D.length dp (trAcc tr X m p) ∧ (∀ i, i + p < D.length → P i = u8c (D.getD i 0)) ∧ (∀ q, q < p → m - 1 - q < 800 → P (m - 1 - q) = u8c (dg X q)) ∧ Onl a w wr
/-- The first loop's relation: j digits are left. -/
def LeftHead (a k : Nat) (D : List UInt8) (X m : Nat) (dp : Int) (tr : Bool) (w : World) (j : Nat) (nn : Value) (wr : World) : Prop :=
  ∃ c : Nat, nn = .int .u64 c ∧ c < 2 ^ k ∧ X / 10 ^ (D.length - j) = val (D.take j) * 2 ^ k + c ∧ LeftInv a D X m dp tr w (D.length - j) wr
section
variable {a : Nat} {D : List UInt8} {X m : Nat} {dp : Int} {tr : Bool} {w : World} {p : Nat} {wr : World}
theorem LeftInv.store (h : LeftInv a D X m dp tr w p wr) (hm : D.length ≤ m) (hp : p < m) (q : Nat) (hq : m = q + p + 1) (h8 : q < 800) (v : Value) (hv : v = u8c (dg X p)) : LeftInv a D X m dp tr w (p + 1) (wr.setCell ⟨a, q, none⟩ v) := by
  obtain ⟨P, h1, h2, h3, h4⟩ := h
  have e : trAcc tr X m (p + 1) = trAcc tr X m p := by simp only [trAcc]; rw [if_neg (by omega)]
  refine ⟨_, by rw [e]; exact h1.setD q h8 v, fun i hi => ?_, fun r hr hr8 => ?_, h4.set _ _⟩
  · show (if q = i then v else P i) = _
    rw [if_neg (by omega)]; exact h2 i (by omega)
  · show (if q = m - 1 - r then v else P (m - 1 - r)) = _
    rcases Nat.lt_or_ge r p with h' | h'
    · rw [if_neg (by omega)]; exact h3 r h' hr8
    · have e' : r = p := by omega
      subst e'
      rw [if_pos (by omega)]; exact hv
theorem LeftInv.skip (h : LeftInv a D X m dp tr w p wr) (q : Nat) (hq : m = q + p + 1) (h8 : 800 ≤ q) (hz : X / 10 ^ p % 10 = 0) : LeftInv a D X m dp tr w (p + 1) wr := by
  obtain ⟨P, h1, h2, h3, h4⟩ := h
  have e : trAcc tr X m (p + 1) = trAcc tr X m p := by simp only [trAcc]; rw [if_neg (fun hh => hh.2 hz)]
  refine ⟨P, by rw [e]; exact h1, fun i hi => h2 i (by omega), fun r hr hr8 => h3 r (by omega) hr8, h4⟩
theorem LeftInv.flag (h : LeftInv a D X m dp tr w p wr) (q : Nat) (hq : m = q + p + 1) (h8 : 800 ≤ q) (hz : X / 10 ^ p % 10 ≠ 0) : LeftInv a D X m dp tr w (p + 1) (wr.setCell ⟨a, 803, none⟩ (.bool true)) := by
  obtain ⟨P, h1, h2, h3, h4⟩ := h
  have e : trAcc tr X m (p + 1) = true := by simp only [trAcc]; rw [if_pos ⟨by omega, hz⟩]
  refine ⟨P, by rw [e]; exact h1.setTr true, fun i hi => h2 i (by omega), fun r hr hr8 => h3 r (by omega) hr8, h4.set _ _⟩
end

theorem slice174 (a n : Nat) (h : n ≤ 800) (w : World) : (Instr.sliceAt 174 (.pointer (some ⟨a, 0, none⟩)) (some (.int .i64 0)) (some (.int .i64 (n : Int))) none).run Tryz.prog w = .ok (.slice (some ⟨a, 0, none⟩) n 800) w := by
  have hu : Tryz.prog.underlying 174 = some (.array 800 5) := Tryz.underlying174
  have ha : Tryz.prog.arrayLen 174 = 800 := by kernel_rfl
  have he : Tryz.prog.elem 174 = 5 := by kernel_rfl
  have hs : ∀ w, (sizeOf 5).run Tryz.prog w = .ok 1 w := Tryz.sizeOf5
  rw [run_sliceAt_array_lh w 174 _ (by rw [ha, he]; exact hu) .i64 .i64 0 n (by omega) (by omega) (by rw [ha]; omega)]
  rw [he, hs, ha]
  show Result.ok (slicedAt _ _ _ _ _) w = _
  simp [slicedAt, Addr.add]

theorem shl_add (c d k : Nat) (h : c + d * 2 ^ k < 18446744073709551616) : IntKind.u64.wrap ((c : Int) + IntKind.u64.wrap ((48 + (d : Int) - 48) * 2 ^ k)) = ((c + d * 2 ^ k : Nat) : Int) := by
  have e : (48 + (d : Int) - 48) * 2 ^ k = ((d * 2 ^ k : Nat) : Int) := by
    rw [Int.natCast_mul, Int.natCast_pow]
    congr 1
    omega
  rw [e, wrapu (a := ((d * 2 ^ k : Nat) : Int)) (by omega) (by omega), wrapu (by omega) (by omega)]
  omega
theorem quo_num (T : Nat) (h : T < 18446744073709551616) : IntKind.u64.wrap ((T : Int).tdiv 10) = ((T / 10 : Nat) : Int) := by
  rw [Int.tdiv_eq_ediv_of_nonneg (by omega), wrapu (by omega) (by omega)]
  omega
theorem rem_num (T : Nat) (h : T < 18446744073709551616) : IntKind.u64.wrap ((T : Int) - IntKind.u64.wrap (10 * ((T / 10 : Nat) : Int))) = ((T % 10 : Nat) : Int) := by
  rw [wrapu (a := 10 * _) (by omega) (by omega), wrapu (by omega) (by omega)]
  omega
theorem dig_num (T : Nat) : IntKind.u64.wrap (((T % 10 : Nat) : Int) + 48) % 256 = ((48 + T % 10 : Nat) : Int) := by
  rw [wrapu (by omega) (by omega)]
  omega
theorem dg_cell (X p t : Nat) (h : X / 10 ^ p % 10 = t) : Value.int .u8 ((48 + t : Nat) : Int) = u8c (dg X p) := by
  show _ = Value.int .u8 (((dg X p).toNat : Nat) : Int)
  rw [dg_toNat, h]

theorem LeftInv.begins {a : Nat} {D : List UInt8} {X : Nat} {dp : Int} {tr : Bool} {w wr : World} (h : LeftInv a D X (nDigits X) dp tr w (nDigits X) wr) :
    ∃ P, DecM wr a P D.length dp (trAcc tr X (nDigits X) (nDigits X)) ∧ Begins P ((decDigits X).take 800) ∧ Onl a w wr := by
  obtain ⟨P, h1, _, h3, h4⟩ := h
  refine ⟨P, h1, fun j hj => ?_, h4⟩
  rw [List.length_take, decDigits_length] at hj
  have e : ((decDigits X).take 800).getD j 0 = (decDigits X).getD j 0 := by
    rw [List.getD_eq_getElem?_getD, List.getD_eq_getElem?_getD, List.getElem?_take, if_pos (by omega)]
  rw [e, decDigits_get X j (by omega), ← h3 (nDigits X - 1 - j) (by omega) (by omega)]
  congr 1
  omega

theorem take_succ_val (D : List UInt8) (i : Nat) (h : i < D.length) : val (D.take (i + 1)) = val (D.take i) * 10 + ((D.getD i 0).toNat - 48) := by
  have e : D.getD i 0 = D[i] := by rw [List.getD_eq_getElem?_getD, List.getElem?_eq_getElem h]; rfl
  rw [List.take_add_one, List.getElem?_eq_getElem h, e]
  exact val_snoc _ _

set_option maxHeartbeats 3200000 in
set_option maxRecDepth 100000 in
theorem leftShift_c {B : Nat} (a k : Nat) (P : Nat → Value) (b : UInt8) (D1 D : List UInt8) (hDD : D = b :: D1) (dp : Int) (tr : Bool) (w : World) (T : Tabs B w) (h : DecM w a P D.length dp tr) (hP : Begins P D)
    (hD : AllDig D) (hb : b ≠ 48) (hl : D.length ≤ 800) (hk1 : 1 ≤ k) (hk60 : k ≤ 60) (hdp0 : -100000 ≤ dp) (hdp1 : dp ≤ 100000) :
    Calls Tryz.prog 116 #[.pointer (some ⟨a, 0, none⟩), .int .u64 k] w fun e w' => e = .returned (.tuple #[]) ∧
      (∃ P', DecM w' a P' (stripZ (leftL k D)).length (trimDp (leftL k D) (dp + deltaF k D)) (leftTr k D tr) ∧ Begins P' (stripZ (leftL k D))) ∧ Onl a w w' := by
  obtain ⟨bl, o, hblB, h3, hc⟩ := T.cheats
  obtain ⟨hc0, hc1⟩ := hc k (by omega)
  obtain ⟨r1, r2, r3, r4, r5, r6, r7, r8, r9⟩ := cheat_row k hk1 hk60
  have hdl : deltaF k D = cheatD k - (if prefixLess D (cheatS k) then 1 else 0) := rfl
  have hlen : nDigits (val D * 2 ^ k) = D.length + deltaF k D := by
    have := shift_len k hk1 hk60 b D1 (hDD ▸ hD) hb
    rw [hDD]; exact this
  have hc0' : w.cell? ⟨bl, o + k * 2, none⟩ = some (.int .i64 ((cheatD k : Nat) : Int)) := hc0
  have hc1' : w.cell? ⟨bl, o + k * 2 + 1, none⟩ = some (.string ⟨(cheatS k).toArray⟩) := hc1
  have hpl := prefixLess_c a 800 D ⟨(cheatS k).toArray⟩
  have hRB : ReadsB w a 0 D := fun j hj => by rw [Nat.zero_add, h.cell j (by omega), hP j hj]
  have n0 := h.cellNd
  clear hc hc0 hc1 r1 r2 r3 r6 r7
  have hbig : 0 < val D * 2 ^ k := by
    have := val_ge (l := D1) (hD b (by rw [hDD]; exact List.mem_cons_self)) hb
    rw [← hDD] at this
    exact Nat.mul_pos (Nat.lt_of_lt_of_le (Nat.pow_pos (by decide)) this) (Nat.pow_pos (by decide))
  have hn0 := div_pos_iff (val D * 2 ^ k)
  have hD1 : 1 ≤ D.length := by rw [hDD]; simp
  have hval : val (D.take D.length) = val D := by rw [List.take_length]
  have hdig : ∀ i, i < D.length → IsDig (D.getD i 0) := fun i hi => by
    rw [List.getD_eq_getElem?_getD, List.getElem?_eq_getElem hi]
    exact hD _ (List.getElem_mem hi)
  generalize hct : (⟨(cheatS k).toArray⟩ : ByteArray) = ct at *
  have hcd : ct.data.toList = cheatS k := by rw [← hct]
  have HDD := Lib.hid hDD
  clear hDD
  generalize hdelta : deltaF k D = dl at *
  generalize hcheat : cheatD k = cd at *
  have Hct := Lib.hid hct
  have Hch := Lib.hid hcheat
  have Hde := Lib.hid hdelta
  clear hct hcheat hdelta
  have Hpl : Hid (∀ w', ReadsB w' a 0 D → Calls Tryz.prog 126 #[.slice (some ⟨a, 0, none⟩) D.length 800, .string ct] w' fun e w'' => e = .returned (.bool (prefixLess D (cheatS k))) ∧ ∃ n, w'' = w'.drewN n) := by
    apply Lib.hid
    intro w' hw'
    have := hpl w' (by omega) hw'
    rw [hcd] at this
    exact this
  have Hdl := Lib.hid hdl
  have Hrb := Lib.hid hRB
  have Hlen := Lib.hid hlen
  have Hcd := Lib.hid hcd
  clear hpl hcd hdl hRB hlen
  generalize hless : prefixLess D (cheatS k) = less at *
  have Hless := Lib.hid hless
  clear hless
  have hsl := slice174 a D.length hl
  go_enter Tryz.func116, Tryz.ntmps116
  go_wp2
  go_quiet ((go_at_call 126; exact quietDrew (Hpl.out _ Hrb.out)))
  go_upto_if 30 with fail
  go_cut [4] (fun s4 wx => s4 = .int .i64 (dl : Int) ∧ ∃ n, wx = w.drewN n)
  case first =>
    cases less
    · go_wp2
      go_meet
      case rel => exact ⟨by have := Hdl.out; simp at this; rw [this], _, rfl⟩
    · go_wp2
      go_meet
      case rel => exact ⟨by have := Hdl.out; simp at this; rw [show (cd : Int) - 1 = (dl : Int) by omega], _, rfl⟩
  case rest =>
    obtain ⟨rfl, n1, rfl⟩ := hcut
    have Hl := Hdl.out
    have hdl100 : dl ≤ 19 := by omega
    clear Hl
    have h' := h.drewN n1
    have ho' := (Onl.refl a w).drewN n1
    have c0 := h'.cellNd
    generalize hw0 : w.drewN n1 = w0 at *
    have hI : LeftInv a D (val D * 2 ^ k) (D.length + dl) dp tr w0 0 w0 := ⟨P, h', fun i hi => hP i (by omega), fun q hq => absurd hq (Nat.not_lt_zero _), Onl.refl _ _⟩
    generalize hX : val D * 2 ^ k = X at *
    have HX := Lib.hid hX
    have Hw0 := Lib.hid hw0
    have Hn0 := Lib.hid hn0
    have Hval := Lib.hid hval
    have Hdig := Lib.hid hdig
    clear hX hw0 hn0 hval hdig
    go_wp2
    go_loopw [5, 6, 7] (fun r v nn wr => ∃ j : Nat, j ≤ D.length ∧ r = .int .i64 ((j : Int) - 1) ∧ v = .int .i64 ((j + dl : Nat) : Int) ∧ LeftHead a k D X (D.length + dl) dp tr w0 j nn wr) (fun r _ _ _ => (intOf r + 1).toNat)
    case atStart => exact ⟨D.length, Nat.le_refl _, by go_num, by go_num, 0, by go_num, Nat.pow_pos (by decide), by rw [Nat.sub_self, Hval.out, HX.out]; simp, by rw [Nat.sub_self]; exact hI⟩
    case round =>
      obtain ⟨j, hj, hr, rfl, c, rfl, hck, hXe, hinv⟩ := hrel
      rcases j with _ | i
      · have hr' := hr.trans (show _ = Value.int .i64 (-1) by rfl)
        clear hr
        subst hr'
        have hXe' : X / 10 ^ D.length = c := by rw [show D.length = D.length - 0 by omega, hXe]; simp [val_nil]
        have HXe := Lib.hid hXe'
        have Hinv := Lib.hid hinv
        have hp60 := pow60 k hk60
        clear hXe hXe' hinv
        go_wp2
        go_loopw [6, 7] (fun v nn wr => ∃ q T : Nat, q ≤ D.length + dl ∧ v = .int .i64 (q : Int) ∧ nn = .int .u64 (T : Int) ∧ T ≤ 1152921504606846976 ∧ X / 10 ^ (D.length + dl - q) = T ∧ LeftInv a D X (D.length + dl) dp tr w0 (D.length + dl - q) wr) (fun v _ _ => (intOf v).toNat)
        case atStart => exact ⟨dl, c, by omega, by go_num, rfl, by omega, by rw [Nat.add_sub_cancel]; exact HXe.out, by rw [Nat.add_sub_cancel]; exact Hinv.out⟩
        case round =>
          clear Hinv
          obtain ⟨q, T, hq, rfl, rfl, hT60, hXT, hinv⟩ := hrel
          have hiff := Hn0.out (D.length + dl - q) hbig
          rw [hXT, Hlen.out] at hiff
          have HXT := Lib.hid hXT
          have Hinv := Lib.hid hinv
          clear hXT hinv
          by_cases hT : 0 < T
          · have hq1 := hiff.1 hT
            obtain ⟨q, rfl⟩ : ∃ q', q = q' + 1 := ⟨q - 1, by omega⟩
            obtain ⟨P1, hm1, _, _, _⟩ := Hinv.out
            have f1 := hm1.frozen q
            have f2 := hm1.frozen 803
            have c3 := hm1.cellTr
            have Hm1 := Lib.hid hm1
            clear hm1 hiff hq1
            have hs2 : X / 10 ^ (D.length + dl - q) = T / 10 := by
              rw [show D.length + dl - q = D.length + dl - (q + 1) + 1 by omega, div_pow_succ, HXT.out]
            have Hs2 := Lib.hid hs2
            clear hs2
            by_cases h8 : q < 800
            · have c4 := Hm1.out.cell q h8
              go_wp2
              go_roundw
              case rel =>
                refine ⟨q, T / 10, by omega, rfl, by go_num, by omega, Hs2.out, ?_⟩
                rw [show D.length + dl - q = D.length + dl - (q + 1) + 1 by omega]
                refine Hinv.out.store (by omega) (by omega) q (by omega) h8 _ ?_
                rw [← dg_cell X _ (T % 10) (by rw [HXT.out])]
                congr 1
                omega
              case measure => simp [intOf]
            · by_cases hz : T % 10 = 0
              · have hz' : (((T : Int) - 10 * ((T : Int) / 10)) != 0) = false := by
                  have : (T : Int) - 10 * ((T : Int) / 10) = 0 := by omega
                  rw [this]; rfl
                go_wp2
                go_roundw
                case rel =>
                  refine ⟨q, T / 10, by omega, rfl, by go_num, by omega, Hs2.out, ?_⟩
                  rw [show D.length + dl - q = D.length + dl - (q + 1) + 1 by omega]
                  exact Hinv.out.skip q (by omega) (by omega) (by rw [HXT.out]; exact hz)
                case measure => simp [intOf]
              · have hz' : (((T : Int) - 10 * ((T : Int) / 10)) != 0) = true := by
                  rw [bne_iff_ne]; omega
                go_wp2
                go_roundw
                case rel =>
                  refine ⟨q, T / 10, by omega, rfl, by go_num, by omega, Hs2.out, ?_⟩
                  rw [show D.length + dl - q = D.length + dl - (q + 1) + 1 by omega]
                  exact Hinv.out.flag q (by omega) (by omega) (by rw [HXT.out]; exact hz)
                case measure => simp [intOf]
          · have hq0 : q = 0 := by omega
            have hT0 : T = 0 := by omega
            subst hq0 hT0
            have hb := Hinv.out
            rw [Nat.sub_zero, ← Hlen.out] at hb
            obtain ⟨P1, hm1, hP1, ho1⟩ := hb.begins
            have hLl : (leftL k D).length = min 800 (D.length + dl) := by
              unfold leftL; rw [HX.out, List.length_take, decDigits_length, Hlen.out]
            have hLe : leftL k D = (decDigits X).take 800 := by unfold leftL; rw [HX.out]
            have hTr : leftTr k D tr = trAcc tr X (nDigits X) (nDigits X) := by unfold leftTr; rw [HX.out, Hlen.out, Hde.out]
            rw [← hLe] at hP1
            rw [← hTr] at hm1
            have Hho : Hid (Onl a w wr) := Lib.hid (by rw [← Hw0.out] at ho1; exact ((Onl.refl a w).drewN n1).trans ho1)
            have cd1 := hm1.cellNd
            have cp1 := hm1.cellDp
            have f1 := hm1.frozen 800
            have f2 := hm1.frozen 801
            have HLl := Lib.hid hLl
            have HLe := Lib.hid hLe
            have HTr := Lib.hid hTr
            have Hm1 := Lib.hid hm1
            have HP1 := Lib.hid hP1
            clear hiff hb hLl hLe hTr hm1 hP1 ho1 Hinv
            by_cases h8 : 800 ≤ D.length + dl
            · have hL8 : ((leftL k D).length : Int) = 800 := by rw [HLl.out]; omega
              have HL8 := Lib.hid hL8
              clear hL8
              go_wp2_with (go_at_call 115; refine (trim_c a P1 (leftL k D) (dp + dl) (leftTr k D tr) _ (by rw [HL8.out]; exact ((Hm1.out.setNd _).setNd _).setDp _) (by rw [HLl.out]; omega) HP1.out).mono ?_; rintro e w' ⟨rfl, hd, ho⟩)
              go_end0
              exact ⟨rfl, ⟨P1, hd, HP1.out.take _⟩, (((Hho.out.set _ _).set _ _).set _ _).trans ho⟩
            · have hL8 : ((leftL k D).length : Int) = D.length + dl := by rw [HLl.out]; omega
              have HL8 := Lib.hid hL8
              clear hL8
              go_wp2_with (go_at_call 115; refine (trim_c a P1 (leftL k D) (dp + dl) (leftTr k D tr) _ (by rw [HL8.out]; exact (Hm1.out.setNd _).setDp _) (by rw [HLl.out]; omega) HP1.out).mono ?_; rintro e w' ⟨rfl, hd, ho⟩)
              go_end0
              exact ⟨rfl, ⟨P1, hd, HP1.out.take _⟩, ((Hho.out.set _ _).set _ _).trans ho⟩
      · have hr' := hr.trans (show _ = Value.int .i64 ((i : Nat) : Int) by congr 1; omega)
        clear hr
        subst hr'
        obtain ⟨hi1, hi2⟩ := Hdig.out i (by omega)
        obtain ⟨d, hd⟩ : ∃ d, (D.getD i 0).toNat = 48 + d := ⟨(D.getD i 0).toNat - 48, by omega⟩
        have hd9 : d ≤ 9 := by omega
        have htk := take_succ_val D i (by omega)
        rw [hd, Nat.add_sub_cancel_left] at htk
        rw [htk] at hXe
        obtain ⟨hs1, hs2⟩ := left_step k _ d c _ hXe
        obtain ⟨hb1, hb2⟩ := carry_bound k d c hck hd9
        have hp60 := pow60 k hk60
        obtain ⟨P1, hm1, hm2, hm3, hm4⟩ := id hinv
        have c2 : wr.cell? ⟨a, i, none⟩ = some (.int .u8 (48 + (d : Int))) := by
          rw [hm1.cell i (by omega), hm2 i (by omega)]
          show some (Value.int .u8 (((D.getD i 0).toNat : Nat) : Int)) = _
          rw [hd]; congr 2
        have f1 := hm1.frozen (i + dl)
        have f2 := hm1.frozen 803
        rw [← div_pow_succ] at hs2
        have Hs1 := Lib.hid hs1
        have Hs2 := Lib.hid hs2
        have Hinv := Lib.hid hinv
        have c3 := hm1.cellTr
        have Hm1 := Lib.hid hm1
        clear hs1 hs2 hinv htk hXe hd hi1 hi2 hm1 hm2 hm3 hm4
        by_cases h8 : i + dl < 800
        · have c4 := Hm1.out.cell (i + dl) h8
          go_wp2
          rw [shl_add c d k (by omega), quo_num _ (by omega), rem_num _ (by omega), dig_num]
          go_roundw
          case rel =>
            refine ⟨i, by omega, by go_num, by congr 1; omega, _, rfl, hb2, ?_, ?_⟩
            · rw [show D.length - i = D.length - (i + 1) + 1 by omega]; exact Hs2.out
            · rw [show D.length - i = D.length - (i + 1) + 1 by omega]
              exact Hinv.out.store (by omega) (by omega) (i + dl) (by omega) h8 _ (dg_cell _ _ _ Hs1.out)
          case measure => simp [intOf]
        · go_upto_if 80 with fail
          rw [shl_add c d k (by omega), quo_num _ (by omega), rem_num _ (by omega)]
          by_cases hz : (c + d * 2 ^ k) % 10 = 0
          · rw [hz]
            go_wp2
            go_roundw
            case rel =>
              refine ⟨i, by omega, by go_num, by congr 1; omega, _, rfl, hb2, ?_, ?_⟩
              · rw [show D.length - i = D.length - (i + 1) + 1 by omega]; exact Hs2.out
              · rw [show D.length - i = D.length - (i + 1) + 1 by omega]
                exact Hinv.out.skip (i + dl) (by omega) (by omega) (Hs1.out.trans hz)
            case measure => simp [intOf]
          · have hz' : (((((c + d * 2 ^ k) % 10 : Nat)) : Int) != 0) = true := by rw [bne_iff_ne]; omega
            rw [hz']
            go_wp2
            go_roundw
            case rel =>
              refine ⟨i, by omega, by go_num, by congr 1; omega, _, rfl, hb2, ?_, ?_⟩
              · rw [show D.length - i = D.length - (i + 1) + 1 by omega]; exact Hs2.out
              · rw [show D.length - i = D.length - (i + 1) + 1 by omega]
                exact Hinv.out.flag (i + dl) (by omega) (by omega) (by rw [Hs1.out]; exact hz)
            case measure => simp [intOf]
end Go.Proofs.YtfbgnonnbcejkaaGreatDoor
namespace Go.Proofs.YtfbgnonnbcejkaaGreatDoor
open Go.RowKit
open Go.Lib (decDigits nDigits dg decDigits_length)

/-- A block of n cells of type t. -/
def BlkM (w : World) (b : Nat) (t : TypeId) (n : Nat) (Q : Nat → Value) : Prop :=
  ∃ cs : Array Value, w.heap[b]? = some (.cells cs t (0, 0)) ∧ cs.size = n ∧ ∀ j, j < n → cs[j]? = some (Q j)
section
variable {w : World} {b : Nat} {t : TypeId} {n : Nat} {Q : Nat → Value}
theorem BlkM.cell (h : BlkM w b t n Q) (j : Nat) (hj : j < n) : w.cell? ⟨b, j, none⟩ = some (Q j) := by
  obtain ⟨cs, hb, _, hP⟩ := h
  simp [World.cell?, hb, hP j hj]
theorem BlkM.frozen (h : BlkM w b t n Q) (j : Nat) : w.frozen? ⟨b, j, none⟩ = false := by
  obtain ⟨cs, hb, _⟩ := h
  simp [World.frozen?, hb]
theorem BlkM.set (h : BlkM w b t n Q) (i : Nat) (hi : i < n) (v : Value) : BlkM (w.setCell ⟨b, i, none⟩ v) b t n (fun j => if i = j then v else Q j) := by
  obtain ⟨cs, hb, hs, hP⟩ := h
  refine ⟨_, setCell_heap hb v, by simpa using hs, fun j hj => ?_⟩
  rw [set_at (by omega)]
  show _ = some (if i = j then v else Q j)
  split
  · rfl
  · exact hP j hj
theorem BlkM.below {w' : World} {a : Nat} (h : BlkM w b t n Q) (hg : w.grownBy w' (some a)) (hab : b ≠ a) : BlkM w' b t n Q := by
  obtain ⟨cs, hb, hs, hP⟩ := h
  have hlt : b < w.heap.size := by
    rcases Nat.lt_or_ge b w.heap.size with h' | h'
    · exact h'
    · rw [Array.getElem?_eq_none h'] at hb; simp at hb
  exact ⟨cs, (hg.block b hlt (fun e => hab (by cases e; rfl))).trans hb, hs, hP⟩
end

theorem DecM.grown {w w' : World} {a : Nat} {P : Nat → Value} {nd dp : Int} {tr : Bool} (h : DecM w a P nd dp tr) {row : Option Nat} (hg : w.grownBy w' row) (hr : row ≠ some a) : DecM w' a P nd dp tr := by
  obtain ⟨cs, hb, hs⟩ := h
  have hlt : a < w.heap.size := by
    rcases Nat.lt_or_ge a w.heap.size with h' | h'
    · exact h'
    · rw [Array.getElem?_eq_none h'] at hb; simp at hb
  exact ⟨cs, (hg.block a hlt (fun e => hr e.symm)).trans hb, hs⟩
theorem DecM.lt {w : World} {a : Nat} {P : Nat → Value} {nd dp : Int} {tr : Bool} (h : DecM w a P nd dp tr) : a < w.heap.size := by
  obtain ⟨cs, hb, hs⟩ := h
  rcases Nat.lt_or_ge a w.heap.size with h' | h'
  · exact h'
  · rw [Array.getElem?_eq_none h'] at hb; simp at hb
theorem grownA_trans {a : Nat} {u v w : World} (h : u.grownBy v (some a)) (k : v.grownBy w (some a)) : u.grownBy w (some a) :=
  ⟨k.os.trans h.os, k.tape.trans h.tape, k.output.trans h.output, Nat.le_trans h.size k.size, fun j hj hne => (k.block j (Nat.lt_of_lt_of_le hj h.size) hne).trans (h.block j hj hne)⟩
theorem grownA_set {a : Nat} {u w : World} (h : u.grownBy w (some a)) (i : Nat) (v : Value) : u.grownBy (w.setCell ⟨a, i, none⟩ v) (some a) := grownA_trans h ((Onl.refl a w).set i v).1
theorem grownA_drew {a : Nat} {u w : World} (h : u.grownBy w (some a)) : u.grownBy w.drew (some a) := ⟨h.os, h.tape, h.output, h.size, h.block⟩
theorem grown_new {b : Nat} {u v w : World} (h : u.grownBy v none) (k : v.grownBy w (some b)) (hb : u.heap.size ≤ b) (row : Option Nat) : u.grownBy w row :=
  ⟨k.os.trans h.os, k.tape.trans h.tape, k.output.trans h.output, Nat.le_trans h.size k.size, fun j hj _ => (k.block j (Nat.lt_of_lt_of_le hj h.size) (fun e => by cases e; omega)).trans (h.block j hj (by simp))⟩
theorem nDigits_20 (v : Nat) (hv1 : v < 18446744073709551616) : nDigits v ≤ 20 := by
  rcases Nat.lt_or_ge 20 (nDigits v) with h | h
  · exfalso
    rcases Nat.eq_zero_or_pos v with h0 | h0
    · subst h0; rw [Go.Lib.nDigits_small (by omega)] at h; omega
    · have := (div_pos_iff v 20 h0).2 h
      rw [Nat.div_pos_iff] at this
      have h20 : (10 : Nat) ^ 20 = 100000000000000000000 := by decide
      omega
  · exact h

set_option maxHeartbeats 1600000 in
theorem assign_c (a v : Nat) (P : Nat → Value) (nd0 dp0 : Int) (tr : Bool) (w : World) (h : DecM w a P nd0 dp0 tr) (hv : 0 < v) (hv1 : v < 18446744073709551616) :
    Calls Tryz.prog 96 #[.pointer (some ⟨a, 0, none⟩), .int .u64 v] w fun e w' => e = .returned (.tuple #[]) ∧
      (∃ P', DecM w' a P' (stripZ (decDigits v)).length (trimDp (decDigits v) (decDigits v).length) tr ∧ Begins P' (stripZ (decDigits v))) ∧ w.grownBy w' (some a) := by
  go_enter Tryz.func96, Tryz.ntmps96
  go_wp2
  generalize hw1 : w.alloc _ = w1
  have e1 : w1 = w.alloc (.cells (Array.replicate 24 (.int .u8 0)) 171) := by rw [← hw1]; rfl
  have hd1 : DecM w1 a P nd0 dp0 tr := by rw [e1]; exact h.grown (World.grownBy_alloc w _ none) (by simp)
  have hb1 : BlkM w1 w.heap.size 171 24 (fun _ => .int .u8 0) := by
    rw [e1]
    exact ⟨_, heap_alloc_new _ _, by simp, fun j hj => by simp [hj]⟩
  have hg1 : w.grownBy w1 none := by rw [e1]; exact World.grownBy_alloc w _ none
  have hab : a ≠ w.heap.size := by have := h.lt; omega
  have hn20 := nDigits_20 v hv1
  have hdp := div_pos_iff v
  generalize hbb : w.heap.size = b at hb1 hab ⊢
  have hbw : w.heap.size ≤ b := by omega
  have Hd1 := Lib.hid hd1
  have Hb1 := Lib.hid hb1
  have Hdp := Lib.hid hdp
  have Hbw := Lib.hid hbw
  clear hw1 e1 h hd1 hb1 hdp hbb hbw
  go_loopw [1, 5] (fun u n wr => ∃ p T : Nat, p ≤ nDigits v ∧ u = .int .u64 (T : Int) ∧ T = v / 10 ^ p ∧ n = .int .i64 (p : Int) ∧ Onl b w1 wr ∧ ∃ Q, BlkM wr b 171 24 Q ∧ ∀ q, q < p → Q q = u8c (dg v q)) (fun u _ _ => (intOf u).toNat)
  case atStart => exact ⟨0, v, Nat.zero_le _, rfl, by simp, rfl, Onl.refl _ _, _, Hb1.out, fun q hq => absurd hq (Nat.not_lt_zero _)⟩
  case round =>
    obtain ⟨p, T, hp, rfl, hT, rfl, ho, Q, hQ, hQd⟩ := hrel
    have hTle : T ≤ v := by rw [hT]; exact Nat.div_le_self _ _
    have hiff := Hdp.out p hv
    rw [← hT] at hiff
    have HT := Lib.hid hT
    have HQ := Lib.hid hQ
    have HQd := Lib.hid hQd
    have Ho := Lib.hid ho
    clear hT hQ hQd ho
    by_cases hT0 : 0 < T
    · have hpl := hiff.1 hT0
      have c1 := HQ.out.cell p (by omega)
      have f1 := HQ.out.frozen p
      clear hiff
      go_wp2_with fail
      go_roundw
      case rel =>
        refine ⟨p + 1, T / 10, by omega, by go_num, by rw [HT.out, div_pow_succ], by go_num, Ho.out.set _ _, _, HQ.out.set p (by omega) _, fun q hq => ?_⟩
        show (if p = q then _ else Q q) = _
        rcases Nat.lt_or_ge q p with h' | h'
        · rw [if_neg (by omega)]; exact HQd.out q h'
        · have e' : q = p := by omega
          subst e'
          rw [if_pos rfl, ← dg_cell v q (T % 10) (by rw [HT.out])]
          congr 1
          omega
      case measure => simp [intOf]; omega
    · have hp0 : nDigits v = p := by omega
      have f0 := (Hd1.out.grown Ho.out.1 (by simpa using Ne.symm hab)).frozen 800
      have c0 := (Hd1.out.grown Ho.out.1 (by simpa using Ne.symm hab)).cellNd
      have Hp0 := Lib.hid hp0
      clear hp0 hiff
      go_wp2_with fail
      have hd2 : DecM (wr.setCell ⟨a, 800, none⟩ (.int .i64 0)) a P 0 dp0 tr := (Hd1.out.grown Ho.out.1 (by simpa using Ne.symm hab)).setNd 0
      have hg2 : wr.grownBy (wr.setCell ⟨a, 800, none⟩ (.int .i64 0)) (some a) := ((Onl.refl a wr).set _ _).1
      have hb2 : BlkM (wr.setCell ⟨a, 800, none⟩ (.int .i64 0)) b 171 24 Q := HQ.out.below hg2 (Ne.symm hab)
      have hg3 : Hid (w.grownBy (wr.setCell ⟨a, 800, none⟩ (.int .i64 0)) (some a)) := Lib.hid (grownA_set (grown_new hg1 Ho.out.1 Hbw.out (some a)) _ _)
      generalize wr.setCell ⟨a, 800, none⟩ (.int .i64 0) = w2 at *
      clear hg2
      go_loopw [5] (fun n wx => ∃ j : Nat, j ≤ p ∧ n = .int .i64 ((p : Int) - 1 - j) ∧ (∃ P', DecM wx a P' j dp0 tr ∧ Begins P' ((decDigits v).take j)) ∧ w2.grownBy wx (some a)) (fun n _ => (intOf n + 1).toNat)
      case atStart => exact ⟨0, Nat.zero_le _, by go_num, ⟨P, hd2, fun q hq => absurd hq (by simp)⟩, ((Onl.refl a w2)).1⟩
      case round =>
        obtain ⟨j, hj, hn, ⟨P', hd, hBg⟩, hgx⟩ := hrel
        have HBg := Lib.hid hBg
        have Hgx := Lib.hid hgx
        have Hd := Lib.hid hd
        have c3 := hd.cellNd
        have f3 := hd.frozen 800
        have f4 := hd.frozen 801
        have f5 := hd.frozen j
        have c5 := hd.cellDp
        have hb3 := hb2.below hgx (Ne.symm hab)
        have Hb3 := Lib.hid hb3
        clear hBg hgx hd hb3
        by_cases hjp : j < p
        · obtain ⟨i, hi⟩ : ∃ i, p = i + j + 1 := ⟨p - 1 - j, by omega⟩
          have hn' := hn.trans (show _ = Value.int .i64 ((i : Nat) : Int) by congr 1; omega)
          clear hn
          subst hn'
          have c4 := Hd.out.cell j (by omega)
          have cb : wr.cell? ⟨b, i, none⟩ = some (.int .u8 ((dg v i).toNat : Int)) := by rw [Hb3.out.cell i (by omega), HQd.out i (by omega)]
          generalize hx : ((dg v i).toNat : Int) = x at cb
          have Hx := Lib.hid hx
          clear hx
          go_wp2_with fail
          go_region
          go_wp2_with fail
          go_roundw
          case rel =>
            refine ⟨j + 1, by omega, by congr 1; omega, ⟨_, ((Hd.out.setD j (by omega) _).setNd _).drew, fun q hq => ?_⟩, grownA_drew (grownA_set (grownA_set Hgx.out _ _) _ _)⟩
            rw [List.length_take, decDigits_length] at hq
            have e : ((decDigits v).take (j + 1)).getD q 0 = dg v (p - 1 - q) := by
              rw [← Hp0.out, ← decDigits_get v q (by omega)]
              rw [List.getD_eq_getElem?_getD, List.getD_eq_getElem?_getD, List.getElem?_take, if_pos (by omega)]
            rw [e]
            show (if j = q then _ else P' q) = _
            rcases Nat.lt_or_ge q j with h' | h'
            · rw [if_neg (by omega), HBg.out q (by rw [List.length_take, decDigits_length]; omega), ← Hp0.out, ← decDigits_get v q (by omega)]
              rw [List.getD_eq_getElem?_getD, List.getD_eq_getElem?_getD, List.getElem?_take, if_pos (by omega)]
            · rw [if_pos (by omega), ← Hx.out, show p - 1 - q = i by omega]
          case measure => simp [intOf]
        · have hjp' : j = p := by omega
          subst hjp'
          have hn' := hn.trans (show _ = Value.int .i64 (-1) by congr 1; omega)
          clear hn
          subst hn'
          have hl : (decDigits v).length = j := by rw [decDigits_length, Hp0.out]
          have hBg := HBg.out
          rw [List.take_of_length_le (by omega)] at hBg
          have hd := Hd.out
          have Hl := Lib.hid hl
          rw [← hl] at hd c3 ⊢
          have HB := Lib.hid hBg
          have Hd' := Lib.hid hd
          clear hBg hd hl Hd HBg
          go_wp2_with (go_at_call 115; refine (trim_c a P' (decDigits v) ((decDigits v).length : Int) tr _ (Hd'.out.setDp _) (by rw [Hl.out]; omega) HB.out).mono ?_; rintro e w' ⟨rfl, hd, ho⟩)
          go_end0
          exact ⟨rfl, ⟨P', hd, HB.out.take _⟩, grownA_trans (grownA_trans hg3.out (grownA_set Hgx.out _ _)) ho.1⟩
end Go.Proofs.YtfbgnonnbcejkaaGreatDoor
