/- Lemmas on the way to the law FnWKTParts, without conditions beside those that each states: fixedWidthFloat: so many digits of a number, as a number of the code's own | shortFloat: the shortest digits of a number, as the code finds them. -/
import Derived.Test.YtfbgnonnbcejkaaGreatDoorY04
namespace Go.Proofs.YtfbgnonnbcejkaaGreatDoor
open Go.RowKit

theorem below_drewN {B : Nat} {a w : World} (h : Below B a w) (n : Nat) : Below B a (w.drewN n) := ⟨h.os, h.tape, h.output, h.size, h.block⟩
theorem Tabs.alloc {B : Nat} {w : World} (T : Tabs B w) (hB : B ≤ w.heap.size) (o : Obj) : Tabs B (w.alloc o) := T.below ((Below.refl _ _).alloc hB o)
/-- A number scaled by a power of ten, as uscale gives it. -/
def scaledF (m e p : Int) : Int := uscaleF m (p10 ((p + 348).toNat * 2)) (p10 ((p + 348).toNat * 2 + 1)) (-(e + p * 108853 / 32768 + 3))
theorem scaledF_range (m e p : Int) : 0 ≤ scaledF m e p ∧ scaledF m e p < 18446744073709551616 := uscaleF_range _ _ _ _
/-- Divided by ten so many times. -/
def div10s (u : Int) : Nat → Int
  | 0 => u
  | k + 1 => divF (div10s u k) 10
theorem div10s_range (u : Int) (h : 0 ≤ u ∧ u < 18446744073709551616) (k : Nat) : 0 ≤ div10s u k ∧ div10s u k < 18446744073709551616 := by
  cases k with
  | zero => exact h
  | succ k => exact divF_range _ _
theorem roundF_range (u : Int) : 0 ≤ roundF u ∧ roundF u < 18446744073709551616 := by
  have := wrap_u64_range (IntKind.u64.wrap (u + 1) + bits .and .u64 (u / 4) 1)
  unfold roundF; omega

/-- fixedWidthFloat's first half: the scaled number and the power. -/
def fixedU (m e n : Int) : Int := scaledF m e (n - 1 - (e + 63) * 78913 / 262144)
def fixedBig (m e n : Int) : Bool := decide (unminF ((10 ^ n.toNat : Nat) : Int) ≤ fixedU m e n)
def fixedU1 (m e n : Int) : Int := if fixedBig m e n then divF (fixedU m e n) 10 else fixedU m e n
def fixedP1 (e n : Int) (big : Bool) : Int := if big then n - 1 - (e + 63) * 78913 / 262144 - 1 else n - 1 - (e + 63) * 78913 / 262144
def fixedD (m e n prec : Int) : Int := roundF (div10s (fixedU1 m e n) (fixedP1 e n (fixedBig m e n) - prec).toNat)
def fixedP (m e n prec : Int) : Int := -(fixedP1 e n (fixedBig m e n) - ((fixedP1 e n (fixedBig m e n) - prec).toNat : Int))

set_option maxHeartbeats 1600000 in
theorem fixed_c {B : Nat} (m e n prec : Int) (w : World) (T : Tabs B w) (hB : B ≤ w.heap.size) (hm0 : 0 ≤ m) (hm1 : m < 18446744073709551616) (he0 : -1200 ≤ e) (he1 : e ≤ 1000) (hn0 : 1 ≤ n) (hn1 : n ≤ 18) (hp0 : 0 ≤ prec) (hp1 : prec ≤ 100)
    (hq0 : -347 ≤ n - 1 - (e + 63) * 78913 / 262144) (hq1 : n - 1 - (e + 63) * 78913 / 262144 < 348) :
    Calls Tryz.prog 95 #[.int .u64 m, .int .i64 e, .int .i64 n, .int .i64 prec, .int .u8 102] w fun en w' =>
      en = .returned (.tuple #[.int .u64 (fixedD m e n prec), .int .i64 (fixedP m e n prec)]) ∧ Below w.heap.size w w' := by
  have P0 := p10_range ((n - 1 - (e + 63) * 78913 / 262144 + 348).toNat * 2)
  have P1 := p10_range ((n - 1 - (e + 63) * 78913 / 262144 + 348).toNat * 2 + 1)
  have Hu : Hid (∀ p, p = n - 1 - (e + 63) * 78913 / 262144 → uscaleF m (p10 ((p + 348).toNat * 2)) (p10 ((p + 348).toNat * 2 + 1)) (-(e + p * 108853 / 32768 + 3)) = fixedU m e n) := by
    rintro p rfl; rfl
  have R := scaledF_range m e (n - 1 - (e + 63) * 78913 / 262144)
  have H0 := Lib.hid P0
  have H1 := Lib.hid P1
  clear P0 P1
  go_enter Tryz.func95, Tryz.ntmps95
  go_wp2_with (first
    | (go_at_call 94; refine (log10Pow2_c _ _ (by omega) (by omega)).mono ?_; rintro e w' ⟨rfl, rfl⟩)
    | (go_at_call 105; refine (log2Pow10_c _ _ (by omega) (by omega)).mono ?_; rintro e w' ⟨rfl, rfl⟩)
    | (go_at_call 104; refine (prescale_c (B := B) w.heap.size _ _ _ _ _ _ _ (T.alloc hB _) (by omega) (by omega) (by omega) (by omega) (by omega) (by omega) (heap_alloc_new _ _)).mono ?_; rintro e w1 ⟨rfl, hg1, hb1, hs1⟩))
  refine (uscale_c _ _ _ _ w.heap.size _ hm0 hm1 H0.out.1 H0.out.2 H1.out.1 H1.out.2 hg1).mono ?_
  rintro e w2 ⟨rfl, nd, rfl⟩
  rw [Hu.out _ rfl]
  have hBw : Below w.heap.size w w1 := ((Below.refl _ w).alloc (Nat.le_refl _) _).trans hb1
  have hcell : (w1.drewN nd).cell? ⟨1, n.toNat, none⟩ = some (.int .u64 ((10 ^ n.toNat : Nat) : Int)) := (T.below (hBw.mono hB)).u10 n.toNat (by omega)
  have RU : 0 ≤ fixedU m e n ∧ fixedU m e n < 18446744073709551616 := R
  have hD : Hid (fixedD m e n prec = roundF (div10s (fixedU1 m e n) (fixedP1 e n (fixedBig m e n) - prec).toNat)) := rfl
  have hP : Hid (fixedP m e n prec = -(fixedP1 e n (fixedBig m e n) - ((fixedP1 e n (fixedBig m e n) - prec).toNat : Int))) := rfl
  have hU1 : fixedU1 m e n = if fixedBig m e n then divF (fixedU m e n) 10 else fixedU m e n := rfl
  have hbg : fixedBig m e n = decide (unminF ((10 ^ n.toNat : Nat) : Int) ≤ fixedU m e n) := rfl
  clear Hu H0 H1 R hg1 hb1 hs1
  generalize fixedU m e n = U at *
  generalize ((10 ^ n.toNat : Nat) : Int) = t at *
  generalize fixedBig m e n = bg at *
  generalize fixedU1 m e n = U1 at *
  generalize hp1 : (e + 63) * 78913 / 262144 = lg at *
  have Hp1 := Lib.hid hp1
  clear hp1
  obtain ⟨RU0, RU1⟩ := RU
  have hPb : -348 ≤ fixedP1 e n bg ∧ fixedP1 e n bg < 348 := by
    unfold fixedP1; rw [Hp1.out]; split <;> (constructor <;> omega)
  have HP1 : fixedP1 e n bg = if bg then n - 1 - lg - 1 else n - 1 - lg := by unfold fixedP1; rw [Hp1.out]
  generalize fixedP1 e n bg = P at *
  obtain ⟨hPb0, hPb1⟩ := hPb
  have RU1' : 0 ≤ U1 ∧ U1 < 18446744073709551616 := by
    rw [hU1]; split
    · exact divF_range _ _
    · exact ⟨RU0, RU1⟩
  have RUs := Lib.hid (div10s_range U1 RU1')
  clear RU1'
  by_cases hbig : unminF t ≤ U
  · have hbt : bg = true := by rw [hbg]; exact decide_eq_true hbig
    subst hbt
    rw [if_pos rfl] at hU1 HP1
    have HU1 := Lib.hid hU1
    have HP := Lib.hid HP1
    clear hbg hU1 HP1
    go_wp2_with (first
      | (go_at_call 113; refine (unmin_c _ _).mono ?_; rintro e w' ⟨rfl, rfl⟩)
      | (go_at_call 114; refine (div10_c _ RU0 RU1 _).mono ?_; rintro e w' ⟨rfl, nd2, rfl⟩; rw [← HU1.out]))
    go_loopw [11, 13] (fun p u wr => ∃ k : Nat, (k : Int) ≤ (P - prec).toNat ∧ p = .int .i64 (P - k) ∧ u = .int .u64 (div10s U1 k) ∧ Below w.heap.size w wr) (fun p _ _ => (intOf p - prec).toNat)
    case atStart => exact ⟨0, by omega, by rw [HP.out]; simp, rfl, below_drewN hBw _⟩
    case round =>
      obtain ⟨k, hk, rfl, rfl, hbw⟩ := hrel
      obtain ⟨q0, q1⟩ := RUs.out k
      by_cases hlt : prec < P - k
      · go_wp2_with (go_at_call 114; refine (div10_c _ q0 q1 _).mono ?_; rintro e w' ⟨rfl, nd2, rfl⟩)
        go_roundw
        case rel => exact ⟨k + 1, by omega, by go_num, rfl, below_drewN hbw _⟩
        case measure => simp [intOf]; omega
      · have hke : (P - prec).toNat = k := by omega
        have HK := Lib.hid hke
        clear hke
        go_wp2_with (go_at_call 110; refine (round_c _ _).mono ?_; rintro e w' ⟨rfl, rfl⟩)
        go_ret2
        refine ⟨?_, hbw⟩
        rw [hD.out, hP.out, HK.out]; rfl
  · have hbt : bg = false := by rw [hbg]; exact decide_eq_false hbig
    subst hbt
    rw [if_neg (by decide)] at hU1 HP1
    have HU1 := Lib.hid hU1
    have HP := Lib.hid HP1
    clear hbg hU1 HP1
    go_wp2_with (first
      | (go_at_call 113; refine (unmin_c _ _).mono ?_; rintro e w' ⟨rfl, rfl⟩)
      | (go_at_call 114; refine (div10_c _ RU0 RU1 _).mono ?_; rintro e w' ⟨rfl, nd2, rfl⟩; rw [← HU1.out]))
    go_loopw [11, 13] (fun p u wr => ∃ k : Nat, (k : Int) ≤ (P - prec).toNat ∧ p = .int .i64 (P - k) ∧ u = .int .u64 (div10s U1 k) ∧ Below w.heap.size w wr) (fun p _ _ => (intOf p - prec).toNat)
    case atStart => exact ⟨0, by omega, by rw [HP.out]; simp, by rw [HU1.out]; rfl, below_drewN hBw _⟩
    case round =>
      obtain ⟨k, hk, rfl, rfl, hbw⟩ := hrel
      obtain ⟨q0, q1⟩ := RUs.out k
      by_cases hlt : prec < P - k
      · go_wp2_with (go_at_call 114; refine (div10_c _ q0 q1 _).mono ?_; rintro e w' ⟨rfl, nd2, rfl⟩)
        go_roundw
        case rel => exact ⟨k + 1, by omega, by go_num, rfl, below_drewN hbw _⟩
        case measure => simp [intOf]; omega
      · have hke : (P - prec).toNat = k := by omega
        have HK := Lib.hid hke
        clear hke
        go_wp2_with (go_at_call 110; refine (round_c _ _).mono ?_; rintro e w' ⟨rfl, rfl⟩)
        go_ret2
        refine ⟨?_, hbw⟩
        rw [hD.out, hP.out, HK.out]; rfl
end Go.Proofs.YtfbgnonnbcejkaaGreatDoor
namespace Go.Proofs.YtfbgnonnbcejkaaGreatDoor
open Go.RowKit

/-- The digits and the power, out of the scaled ends of the interval. -/
def shortRes (m e p dmin dmax : Int) : Int × Int :=
  if dmin ≤ IntKind.u64.wrap (dmax / 10 * 10) then (dmax / 10, -(p - 1))
  else if dmin < dmax then (roundF (scaledF m e p), -p) else (dmin, -p)
def shortTail (m e p mn mx odd : Int) : Int × Int :=
  shortRes m e p (ceilF (nudgeF (scaledF mn e p) odd)) (floorF (nudgeF (scaledF mx e p) (-odd)))
/-- What shortFloat computes at a float64's m and e. -/
def shortF (m e : Int) : Int × Int :=
  if m = 9223372036854775808 ∧ -1085 < e then
    shortTail m e (-(((e + 11) * 631305 - 261663) / 2097152)) (IntKind.u64.wrap (m - 512)) (IntKind.u64.wrap (m + 1024)) (bits .and .i64 (m / 2048) 1)
  else if -1085 ≤ e then
    shortTail m e (-((e + 11) * 78913 / 262144)) (IntKind.u64.wrap (m - 1024)) (IntKind.u64.wrap (m + 1024)) (bits .and .i64 (m / 2048) 1)
  else
    shortTail m e (-((e + (11 + (-1085 - e))) * 78913 / 262144)) (IntKind.u64.wrap (m - IntKind.u64.wrap (2 ^ ((11 + (-1085 - e)).toNat - 1))))
      (IntKind.u64.wrap (m + IntKind.u64.wrap (2 ^ ((11 + (-1085 - e)).toNat - 1)))) (bits .and .i64 (wrap64 (m / 2 ^ (11 + (-1085 - e)).toNat)) 1)

theorem and1 (s : Int) : 0 ≤ bits .and .i64 s 1 ∧ bits .and .i64 s 1 ≤ 1 := by
  have e : bits .and .i64 s 1 = IntKind.i64.wrap ((BitVec.ofInt 64 s &&& BitVec.ofInt 64 1).toNat : Int) := rfl
  have h2 : (BitVec.ofInt 64 s &&& BitVec.ofInt 64 1).toNat ≤ 1 := by
    rw [BitVec.toNat_and]
    exact Nat.le_trans Nat.and_le_right (by decide)
  rw [e, IntKind.wrap_i64]
  omega

theorem ceilF_range (u : Int) : 0 ≤ ceilF u ∧ ceilF u < 18446744073709551616 := by
  have := wrap_u64_range (u + 3)
  unfold ceilF; omega
theorem floorF_range (u : Int) : 0 ≤ floorF u ∧ floorF u < 18446744073709551616 := by
  have := wrap_u64_range (u + 0)
  unfold floorF; omega
theorem shortTail_range (m e p mn mx odd : Int) : 0 ≤ (shortTail m e p mn mx odd).1 ∧ (shortTail m e p mn mx odd).1 < 18446744073709551616 := by
  have h1 := ceilF_range (nudgeF (scaledF mn e p) odd)
  have h2 := floorF_range (nudgeF (scaledF mx e p) (-odd))
  have h3 := roundF_range (scaledF m e p)
  unfold shortTail shortRes
  split
  · show 0 ≤ _ / 10 ∧ _; omega
  · split
    · exact h3
    · exact h1
theorem shortF_range (m e : Int) : 0 ≤ (shortF m e).1 ∧ (shortF m e).1 < 18446744073709551616 := by
  unfold shortF
  split
  · exact shortTail_range _ _ _ _ _ _
  · split <;> exact shortTail_range _ _ _ _ _ _
theorem shortTail_p (m e p mn mx odd : Int) : -p ≤ (shortTail m e p mn mx odd).2 ∧ (shortTail m e p mn mx odd).2 ≤ -p + 1 := by
  unfold shortTail shortRes
  split
  · show -p ≤ -(p - 1) ∧ _; omega
  · split <;> (show -p ≤ -p ∧ -p ≤ _; omega)
theorem shortF_p (m e : Int) (he0 : -1137 ≤ e) (he1 : e ≤ 1000) : -350 ≤ (shortF m e).2 ∧ (shortF m e).2 ≤ 310 := by
  unfold shortF
  split
  · have := shortTail_p m e (-(((e + 11) * 631305 - 261663) / 2097152)) (IntKind.u64.wrap (m - 512)) (IntKind.u64.wrap (m + 1024)) (bits .and .i64 (m / 2048) 1)
    omega
  · split
    · have := shortTail_p m e (-((e + 11) * 78913 / 262144)) (IntKind.u64.wrap (m - 1024)) (IntKind.u64.wrap (m + 1024)) (bits .and .i64 (m / 2048) 1)
      omega
    · have := shortTail_p m e (-((e + (11 + (-1085 - e))) * 78913 / 262144)) (IntKind.u64.wrap (m - IntKind.u64.wrap (2 ^ ((11 + (-1085 - e)).toNat - 1))))
        (IntKind.u64.wrap (m + IntKind.u64.wrap (2 ^ ((11 + (-1085 - e)).toNat - 1)))) (bits .and .i64 (wrap64 (m / 2 ^ (11 + (-1085 - e)).toNat)) 1)
      omega

set_option maxHeartbeats 3200000 in
theorem short_c {B : Nat} (m e : Int) (w : World) (T : Tabs B w) (hB : B ≤ w.heap.size) (hm0 : 0 ≤ m) (hm1 : m < 18446744073709551616) (he0 : -1137 ≤ e) (he1 : e ≤ 1000) :
    Calls Tryz.prog 99 #[.int .u64 m, .int .i64 e] w fun en w' =>
      en = .returned (.tuple #[.int .u64 (shortF m e).1, .int .i64 (shortF m e).2]) ∧ Below w.heap.size w w' := by
  obtain ⟨c, hc⟩ : ∃ c : Nat, (c = 1 ∧ (m == 9223372036854775808) = true ∧ -1085 < e) ∨ (c = 2 ∧ (m == 9223372036854775808) = true ∧ e = -1085) ∨ (c = 3 ∧ (m == 9223372036854775808) = false ∧ -1085 ≤ e) ∨ (c = 4 ∧ (m == 9223372036854775808) = true ∧ e < -1085) ∨ (c = 5 ∧ (m == 9223372036854775808) = false ∧ e < -1085) := by
    by_cases hm : m = 9223372036854775808
    · have hm' : (m == 9223372036854775808) = true := by simpa using hm
      rcases Int.lt_trichotomy e (-1085) with h | h | h
      · exact ⟨4, by simp [hm', h]⟩
      · exact ⟨2, by simp [hm', h]⟩
      · exact ⟨1, by simp [hm', h]⟩
    · have hm' : (m == 9223372036854775808) = false := by simpa using hm
      rcases Int.lt_trichotomy e (-1085) with h | h | h
      · exact ⟨5, by simp [hm', h]⟩
      · exact ⟨3, by simp [hm', h]⟩
      · exact ⟨3, by simp [hm']; omega⟩
  rcases hc with ⟨-, hm, he⟩ | ⟨-, hm, he⟩ | ⟨-, hm, he⟩ | ⟨-, hm, he⟩ | ⟨-, hm, he⟩
  · have HF : Hid (shortF m e = _) := Lib.hid (if_pos ⟨by simpa using hm, he⟩)
    go_enter Tryz.func99, Tryz.ntmps99
    go_wp2_with (first | (go_at_call 103; refine (skewed_c _ _ (by omega) (by omega)).mono ?_; rintro e w' ⟨rfl, rfl⟩) | (go_at_call 94; refine (log10Pow2_c _ _ (by omega) (by omega)).mono ?_; rintro e w' ⟨rfl, rfl⟩))
    have hp : -347 ≤ -(((e + 11) * 631305 - 261663) / 2097152) ∧ -(((e + 11) * 631305 - 261663) / 2097152) < 348 := by constructor <;> omega
    have ra := wrap_u64_range (m - 512)
    have rb := wrap_u64_range (m + 1024)
    have ro := and1 (m / 2048)
    generalize -(((e + 11) * 631305 - 261663) / 2097152) = p at *
    generalize IntKind.u64.wrap (m - 512) = mn at *
    generalize IntKind.u64.wrap (m + 1024) = mx at *
    generalize bits .and .i64 (m / 2048) 1 = odd at *
    obtain ⟨hp0, hp1⟩ := hp
    obtain ⟨ra0, ra1⟩ := ra
    obtain ⟨rb0, rb1⟩ := rb
    obtain ⟨ro0, ro1⟩ := ro
    have P0 := p10_range ((p + 348).toNat * 2)
    have P1 := p10_range ((p + 348).toNat * 2 + 1)
    have HT : Hid (∀ mn mx odd, shortTail m e p mn mx odd = shortRes m e p (ceilF (nudgeF (uscaleF mn (p10 ((p + 348).toNat * 2)) (p10 ((p + 348).toNat * 2 + 1)) (-(e + p * 108853 / 32768 + 3))) odd)) (floorF (nudgeF (uscaleF mx (p10 ((p + 348).toNat * 2)) (p10 ((p + 348).toNat * 2 + 1)) (-(e + p * 108853 / 32768 + 3))) (-odd)))) := fun _ _ _ => rfl
    have HR : Hid (∀ a b, shortRes m e p a b = if a ≤ IntKind.u64.wrap (b / 10 * 10) then (b / 10, -(p - 1)) else if a < b then (roundF (uscaleF m (p10 ((p + 348).toNat * 2)) (p10 ((p + 348).toNat * 2 + 1)) (-(e + p * 108853 / 32768 + 3))), -p) else (a, -p)) := fun _ _ => rfl
    have H0 := Lib.hid P0
    have H1 := Lib.hid P1
    clear P0 P1
    go_wp2_with (first
      | (go_at_call 105; refine (log2Pow10_c _ _ (by omega) (by omega)).mono ?_; rintro e w' ⟨rfl, rfl⟩)
      | (go_at_call 104; refine (prescale_c (B := B) w.heap.size _ _ _ _ _ _ _ (T.alloc hB _) (by omega) (by omega) (by omega) (by omega) (by omega) (by omega) (heap_alloc_new _ _)).mono ?_; rintro e w1 ⟨rfl, hg1, hb1, hs1⟩))
    have hBw : Below w.heap.size w w1 := ((Below.refl _ w).alloc (Nat.le_refl _) _).trans hb1
    clear hs1 hb1
    generalize p10 ((p + 348).toNat * 2) = hi at *
    generalize p10 ((p + 348).toNat * 2 + 1) = lo at *
    obtain ⟨hi0, hi1⟩ := H0.out
    obtain ⟨lo0, lo1⟩ := H1.out
    generalize -(e + p * 108853 / 32768 + 3) = s at *
    have HG := Lib.hid hg1
    clear hg1
    refine (uscale_c mn hi lo s w.heap.size _ ra0 ra1 hi0 hi1 lo0 lo1 HG.out).mono ?_
    rintro e1 w2 ⟨rfl, n1, rfl⟩
    go_wp2_with (first
      | (go_at_call 107; refine (nudge_c _ _ _).mono ?_; rintro e w' ⟨rfl, rfl⟩)
      | (go_at_call 108; refine (ceil_c _ _).mono ?_; rintro e w' ⟨rfl, rfl⟩))
    have HT1 := HT.out mn mx odd
    have rc := ceilF_range (nudgeF (uscaleF mn hi lo s) odd)
    generalize ceilF (nudgeF (uscaleF mn hi lo s) odd) = dmin at *
    have HT2 := Lib.hid HT1
    clear HT1 HT
    refine (uscale_c mx hi lo s w.heap.size (w1.drewN n1) rb0 rb1 hi0 hi1 lo0 lo1 (by exact HG.out)).mono ?_
    rintro e1 w2 ⟨rfl, n2, rfl⟩
    go_wp2_with (go_at_call 107; refine (nudge_c _ _ _).mono ?_; rintro e w' ⟨rfl, rfl⟩)
    refine (floor_c _ _).mono ?_
    rintro e1 w2 ⟨rfl, rfl⟩
    have HT3 := HT2.out
    have rd := floorF_range (nudgeF (uscaleF mx hi lo s) (-odd))
    generalize floorF (nudgeF (uscaleF mx hi lo s) (-odd)) = dmax at *
    have HT4 := Lib.hid HT3
    have HR1 := Lib.hid (HR.out dmin dmax)
    clear HT3 HT2 HR
    obtain ⟨rc0, rc1⟩ := rc
    obtain ⟨rd0, rd1⟩ := rd
    go_wp2_with (first
      | (go_at_call 106; refine (uscale_c m hi lo s w.heap.size _ hm0 hm1 hi0 hi1 lo0 lo1 (by exact HG.out)).mono ?_; rintro e w' ⟨rfl, n3, rfl⟩)
      | (go_at_call 110; refine (round_c _ _).mono ?_; rintro e w' ⟨rfl, rfl⟩))
    all_goals go_ret2
    all_goals refine ⟨?_, below_drewN hBw _⟩
    all_goals rw [HF.out, HT4.out, HR1.out, wrapu (a := dmax / 10 * 10) (by omega) (by omega)]
    · rw [if_pos (by assumption)]; rfl
    · rw [if_neg (by omega), if_pos (by assumption)]; rfl
    · rw [if_neg (by omega), if_neg (by omega)]; rfl
  · have he1 : e ≤ -1085 := by omega
    have he2 : -1085 ≤ e := by omega
    have HF : Hid (shortF m e = _) := Lib.hid ((if_neg (by omega)).trans (if_pos he2))
    clear he
    go_enter Tryz.func99, Tryz.ntmps99
    go_wp2_with (first | (go_at_call 103; refine (skewed_c _ _ (by omega) (by omega)).mono ?_; rintro e w' ⟨rfl, rfl⟩) | (go_at_call 94; refine (log10Pow2_c _ _ (by omega) (by omega)).mono ?_; rintro e w' ⟨rfl, rfl⟩))
    have hp : -347 ≤ -((e + 11) * 78913 / 262144) ∧ -((e + 11) * 78913 / 262144) < 348 := by constructor <;> omega
    have ra := wrap_u64_range (m - 1024)
    have rb := wrap_u64_range (m + 1024)
    have ro := and1 (m / 2048)
    generalize -((e + 11) * 78913 / 262144) = p at *
    generalize IntKind.u64.wrap (m - 1024) = mn at *
    generalize IntKind.u64.wrap (m + 1024) = mx at *
    generalize bits .and .i64 (m / 2048) 1 = odd at *
    obtain ⟨hp0, hp1⟩ := hp
    obtain ⟨ra0, ra1⟩ := ra
    obtain ⟨rb0, rb1⟩ := rb
    obtain ⟨ro0, ro1⟩ := ro
    have P0 := p10_range ((p + 348).toNat * 2)
    have P1 := p10_range ((p + 348).toNat * 2 + 1)
    have HT : Hid (∀ mn mx odd, shortTail m e p mn mx odd = shortRes m e p (ceilF (nudgeF (uscaleF mn (p10 ((p + 348).toNat * 2)) (p10 ((p + 348).toNat * 2 + 1)) (-(e + p * 108853 / 32768 + 3))) odd)) (floorF (nudgeF (uscaleF mx (p10 ((p + 348).toNat * 2)) (p10 ((p + 348).toNat * 2 + 1)) (-(e + p * 108853 / 32768 + 3))) (-odd)))) := fun _ _ _ => rfl
    have HR : Hid (∀ a b, shortRes m e p a b = if a ≤ IntKind.u64.wrap (b / 10 * 10) then (b / 10, -(p - 1)) else if a < b then (roundF (uscaleF m (p10 ((p + 348).toNat * 2)) (p10 ((p + 348).toNat * 2 + 1)) (-(e + p * 108853 / 32768 + 3))), -p) else (a, -p)) := fun _ _ => rfl
    have H0 := Lib.hid P0
    have H1 := Lib.hid P1
    clear P0 P1
    go_wp2_with (first
      | (go_at_call 105; refine (log2Pow10_c _ _ (by omega) (by omega)).mono ?_; rintro e w' ⟨rfl, rfl⟩)
      | (go_at_call 104; refine (prescale_c (B := B) w.heap.size _ _ _ _ _ _ _ (T.alloc hB _) (by omega) (by omega) (by omega) (by omega) (by omega) (by omega) (heap_alloc_new _ _)).mono ?_; rintro e w1 ⟨rfl, hg1, hb1, hs1⟩))
    have hBw : Below w.heap.size w w1 := ((Below.refl _ w).alloc (Nat.le_refl _) _).trans hb1
    clear hs1 hb1
    generalize p10 ((p + 348).toNat * 2) = hi at *
    generalize p10 ((p + 348).toNat * 2 + 1) = lo at *
    obtain ⟨hi0, hi1⟩ := H0.out
    obtain ⟨lo0, lo1⟩ := H1.out
    generalize -(e + p * 108853 / 32768 + 3) = s at *
    have HG := Lib.hid hg1
    clear hg1
    refine (uscale_c mn hi lo s w.heap.size _ ra0 ra1 hi0 hi1 lo0 lo1 HG.out).mono ?_
    rintro e1 w2 ⟨rfl, n1, rfl⟩
    go_wp2_with (first
      | (go_at_call 107; refine (nudge_c _ _ _).mono ?_; rintro e w' ⟨rfl, rfl⟩)
      | (go_at_call 108; refine (ceil_c _ _).mono ?_; rintro e w' ⟨rfl, rfl⟩))
    have HT1 := HT.out mn mx odd
    have rc := ceilF_range (nudgeF (uscaleF mn hi lo s) odd)
    generalize ceilF (nudgeF (uscaleF mn hi lo s) odd) = dmin at *
    have HT2 := Lib.hid HT1
    clear HT1 HT
    refine (uscale_c mx hi lo s w.heap.size (w1.drewN n1) rb0 rb1 hi0 hi1 lo0 lo1 (by exact HG.out)).mono ?_
    rintro e1 w2 ⟨rfl, n2, rfl⟩
    go_wp2_with (go_at_call 107; refine (nudge_c _ _ _).mono ?_; rintro e w' ⟨rfl, rfl⟩)
    refine (floor_c _ _).mono ?_
    rintro e1 w2 ⟨rfl, rfl⟩
    have HT3 := HT2.out
    have rd := floorF_range (nudgeF (uscaleF mx hi lo s) (-odd))
    generalize floorF (nudgeF (uscaleF mx hi lo s) (-odd)) = dmax at *
    have HT4 := Lib.hid HT3
    have HR1 := Lib.hid (HR.out dmin dmax)
    clear HT3 HT2 HR
    obtain ⟨rc0, rc1⟩ := rc
    obtain ⟨rd0, rd1⟩ := rd
    go_wp2_with (first
      | (go_at_call 106; refine (uscale_c m hi lo s w.heap.size _ hm0 hm1 hi0 hi1 lo0 lo1 (by exact HG.out)).mono ?_; rintro e w' ⟨rfl, n3, rfl⟩)
      | (go_at_call 110; refine (round_c _ _).mono ?_; rintro e w' ⟨rfl, rfl⟩))
    all_goals go_ret2
    all_goals refine ⟨?_, below_drewN hBw _⟩
    all_goals rw [HF.out, HT4.out, HR1.out, wrapu (a := dmax / 10 * 10) (by omega) (by omega)]
    · rw [if_pos (by assumption)]; rfl
    · rw [if_neg (by omega), if_pos (by assumption)]; rfl
    · rw [if_neg (by omega), if_neg (by omega)]; rfl
  · have HF : Hid (shortF m e = _) := Lib.hid ((if_neg (by simp at hm; omega)).trans (if_pos he))
    go_enter Tryz.func99, Tryz.ntmps99
    go_wp2_with (first | (go_at_call 103; refine (skewed_c _ _ (by omega) (by omega)).mono ?_; rintro e w' ⟨rfl, rfl⟩) | (go_at_call 94; refine (log10Pow2_c _ _ (by omega) (by omega)).mono ?_; rintro e w' ⟨rfl, rfl⟩))
    have hp : -347 ≤ -((e + 11) * 78913 / 262144) ∧ -((e + 11) * 78913 / 262144) < 348 := by constructor <;> omega
    have ra := wrap_u64_range (m - 1024)
    have rb := wrap_u64_range (m + 1024)
    have ro := and1 (m / 2048)
    generalize -((e + 11) * 78913 / 262144) = p at *
    generalize IntKind.u64.wrap (m - 1024) = mn at *
    generalize IntKind.u64.wrap (m + 1024) = mx at *
    generalize bits .and .i64 (m / 2048) 1 = odd at *
    obtain ⟨hp0, hp1⟩ := hp
    obtain ⟨ra0, ra1⟩ := ra
    obtain ⟨rb0, rb1⟩ := rb
    obtain ⟨ro0, ro1⟩ := ro
    have P0 := p10_range ((p + 348).toNat * 2)
    have P1 := p10_range ((p + 348).toNat * 2 + 1)
    have HT : Hid (∀ mn mx odd, shortTail m e p mn mx odd = shortRes m e p (ceilF (nudgeF (uscaleF mn (p10 ((p + 348).toNat * 2)) (p10 ((p + 348).toNat * 2 + 1)) (-(e + p * 108853 / 32768 + 3))) odd)) (floorF (nudgeF (uscaleF mx (p10 ((p + 348).toNat * 2)) (p10 ((p + 348).toNat * 2 + 1)) (-(e + p * 108853 / 32768 + 3))) (-odd)))) := fun _ _ _ => rfl
    have HR : Hid (∀ a b, shortRes m e p a b = if a ≤ IntKind.u64.wrap (b / 10 * 10) then (b / 10, -(p - 1)) else if a < b then (roundF (uscaleF m (p10 ((p + 348).toNat * 2)) (p10 ((p + 348).toNat * 2 + 1)) (-(e + p * 108853 / 32768 + 3))), -p) else (a, -p)) := fun _ _ => rfl
    have H0 := Lib.hid P0
    have H1 := Lib.hid P1
    clear P0 P1
    go_wp2_with (first
      | (go_at_call 105; refine (log2Pow10_c _ _ (by omega) (by omega)).mono ?_; rintro e w' ⟨rfl, rfl⟩)
      | (go_at_call 104; refine (prescale_c (B := B) w.heap.size _ _ _ _ _ _ _ (T.alloc hB _) (by omega) (by omega) (by omega) (by omega) (by omega) (by omega) (heap_alloc_new _ _)).mono ?_; rintro e w1 ⟨rfl, hg1, hb1, hs1⟩))
    have hBw : Below w.heap.size w w1 := ((Below.refl _ w).alloc (Nat.le_refl _) _).trans hb1
    clear hs1 hb1
    generalize p10 ((p + 348).toNat * 2) = hi at *
    generalize p10 ((p + 348).toNat * 2 + 1) = lo at *
    obtain ⟨hi0, hi1⟩ := H0.out
    obtain ⟨lo0, lo1⟩ := H1.out
    generalize -(e + p * 108853 / 32768 + 3) = s at *
    have HG := Lib.hid hg1
    clear hg1
    refine (uscale_c mn hi lo s w.heap.size _ ra0 ra1 hi0 hi1 lo0 lo1 HG.out).mono ?_
    rintro e1 w2 ⟨rfl, n1, rfl⟩
    go_wp2_with (first
      | (go_at_call 107; refine (nudge_c _ _ _).mono ?_; rintro e w' ⟨rfl, rfl⟩)
      | (go_at_call 108; refine (ceil_c _ _).mono ?_; rintro e w' ⟨rfl, rfl⟩))
    have HT1 := HT.out mn mx odd
    have rc := ceilF_range (nudgeF (uscaleF mn hi lo s) odd)
    generalize ceilF (nudgeF (uscaleF mn hi lo s) odd) = dmin at *
    have HT2 := Lib.hid HT1
    clear HT1 HT
    refine (uscale_c mx hi lo s w.heap.size (w1.drewN n1) rb0 rb1 hi0 hi1 lo0 lo1 (by exact HG.out)).mono ?_
    rintro e1 w2 ⟨rfl, n2, rfl⟩
    go_wp2_with (go_at_call 107; refine (nudge_c _ _ _).mono ?_; rintro e w' ⟨rfl, rfl⟩)
    refine (floor_c _ _).mono ?_
    rintro e1 w2 ⟨rfl, rfl⟩
    have HT3 := HT2.out
    have rd := floorF_range (nudgeF (uscaleF mx hi lo s) (-odd))
    generalize floorF (nudgeF (uscaleF mx hi lo s) (-odd)) = dmax at *
    have HT4 := Lib.hid HT3
    have HR1 := Lib.hid (HR.out dmin dmax)
    clear HT3 HT2 HR
    obtain ⟨rc0, rc1⟩ := rc
    obtain ⟨rd0, rd1⟩ := rd
    go_wp2_with (first
      | (go_at_call 106; refine (uscale_c m hi lo s w.heap.size _ hm0 hm1 hi0 hi1 lo0 lo1 (by exact HG.out)).mono ?_; rintro e w' ⟨rfl, n3, rfl⟩)
      | (go_at_call 110; refine (round_c _ _).mono ?_; rintro e w' ⟨rfl, rfl⟩))
    all_goals go_ret2
    all_goals refine ⟨?_, below_drewN hBw _⟩
    all_goals rw [HF.out, HT4.out, HR1.out, wrapu (a := dmax / 10 * 10) (by omega) (by omega)]
    · rw [if_pos (by assumption)]; rfl
    · rw [if_neg (by omega), if_pos (by assumption)]; rfl
    · rw [if_neg (by omega), if_neg (by omega)]; rfl
  all_goals
    have HF : Hid (shortF m e = _) := Lib.hid ((if_neg (by omega)).trans (if_neg (by omega)))
    go_enter Tryz.func99, Tryz.ntmps99
    go_wp2_with (first | (go_at_call 103; refine (skewed_c _ _ (by omega) (by omega)).mono ?_; rintro e w' ⟨rfl, rfl⟩) | (go_at_call 94; refine (log10Pow2_c _ _ (by omega) (by omega)).mono ?_; rintro e w' ⟨rfl, rfl⟩))
    have hp : -347 ≤ -((e + (11 + (-1085 - e))) * 78913 / 262144) ∧ -((e + (11 + (-1085 - e))) * 78913 / 262144) < 348 := by constructor <;> omega
    have ra := wrap_u64_range (m - IntKind.u64.wrap (2 ^ ((11 + (-1085 - e)).toNat - 1)))
    have rb := wrap_u64_range (m + IntKind.u64.wrap (2 ^ ((11 + (-1085 - e)).toNat - 1)))
    have ro := and1 (wrap64 (m / 2 ^ (11 + (-1085 - e)).toNat))
    generalize -((e + (11 + (-1085 - e))) * 78913 / 262144) = p at *
    generalize IntKind.u64.wrap (m - IntKind.u64.wrap (2 ^ ((11 + (-1085 - e)).toNat - 1))) = mn at *
    generalize IntKind.u64.wrap (m + IntKind.u64.wrap (2 ^ ((11 + (-1085 - e)).toNat - 1))) = mx at *
    generalize bits .and .i64 (wrap64 (m / 2 ^ (11 + (-1085 - e)).toNat)) 1 = odd at *
    obtain ⟨hp0, hp1⟩ := hp
    obtain ⟨ra0, ra1⟩ := ra
    obtain ⟨rb0, rb1⟩ := rb
    obtain ⟨ro0, ro1⟩ := ro
    have P0 := p10_range ((p + 348).toNat * 2)
    have P1 := p10_range ((p + 348).toNat * 2 + 1)
    have HT : Hid (∀ mn mx odd, shortTail m e p mn mx odd = shortRes m e p (ceilF (nudgeF (uscaleF mn (p10 ((p + 348).toNat * 2)) (p10 ((p + 348).toNat * 2 + 1)) (-(e + p * 108853 / 32768 + 3))) odd)) (floorF (nudgeF (uscaleF mx (p10 ((p + 348).toNat * 2)) (p10 ((p + 348).toNat * 2 + 1)) (-(e + p * 108853 / 32768 + 3))) (-odd)))) := fun _ _ _ => rfl
    have HR : Hid (∀ a b, shortRes m e p a b = if a ≤ IntKind.u64.wrap (b / 10 * 10) then (b / 10, -(p - 1)) else if a < b then (roundF (uscaleF m (p10 ((p + 348).toNat * 2)) (p10 ((p + 348).toNat * 2 + 1)) (-(e + p * 108853 / 32768 + 3))), -p) else (a, -p)) := fun _ _ => rfl
    have H0 := Lib.hid P0
    have H1 := Lib.hid P1
    clear P0 P1
    go_wp2_with (first
      | (go_at_call 105; refine (log2Pow10_c _ _ (by omega) (by omega)).mono ?_; rintro e w' ⟨rfl, rfl⟩)
      | (go_at_call 104; refine (prescale_c (B := B) w.heap.size _ _ _ _ _ _ _ (T.alloc hB _) (by omega) (by omega) (by omega) (by omega) (by omega) (by omega) (heap_alloc_new _ _)).mono ?_; rintro e w1 ⟨rfl, hg1, hb1, hs1⟩))
    have hBw : Below w.heap.size w w1 := ((Below.refl _ w).alloc (Nat.le_refl _) _).trans hb1
    clear hs1 hb1
    generalize p10 ((p + 348).toNat * 2) = hi at *
    generalize p10 ((p + 348).toNat * 2 + 1) = lo at *
    obtain ⟨hi0, hi1⟩ := H0.out
    obtain ⟨lo0, lo1⟩ := H1.out
    generalize -(e + p * 108853 / 32768 + 3) = s at *
    have HG := Lib.hid hg1
    clear hg1
    refine (uscale_c mn hi lo s w.heap.size _ ra0 ra1 hi0 hi1 lo0 lo1 HG.out).mono ?_
    rintro e1 w2 ⟨rfl, n1, rfl⟩
    go_wp2_with (first
      | (go_at_call 107; refine (nudge_c _ _ _).mono ?_; rintro e w' ⟨rfl, rfl⟩)
      | (go_at_call 108; refine (ceil_c _ _).mono ?_; rintro e w' ⟨rfl, rfl⟩))
    have HT1 := HT.out mn mx odd
    have rc := ceilF_range (nudgeF (uscaleF mn hi lo s) odd)
    generalize ceilF (nudgeF (uscaleF mn hi lo s) odd) = dmin at *
    have HT2 := Lib.hid HT1
    clear HT1 HT
    refine (uscale_c mx hi lo s w.heap.size (w1.drewN n1) rb0 rb1 hi0 hi1 lo0 lo1 (by exact HG.out)).mono ?_
    rintro e1 w2 ⟨rfl, n2, rfl⟩
    go_wp2_with (go_at_call 107; refine (nudge_c _ _ _).mono ?_; rintro e w' ⟨rfl, rfl⟩)
    refine (floor_c _ _).mono ?_
    rintro e1 w2 ⟨rfl, rfl⟩
    have HT3 := HT2.out
    have rd := floorF_range (nudgeF (uscaleF mx hi lo s) (-odd))
    generalize floorF (nudgeF (uscaleF mx hi lo s) (-odd)) = dmax at *
    have HT4 := Lib.hid HT3
    have HR1 := Lib.hid (HR.out dmin dmax)
    clear HT3 HT2 HR
    obtain ⟨rc0, rc1⟩ := rc
    obtain ⟨rd0, rd1⟩ := rd
    go_wp2_with (first
      | (go_at_call 106; refine (uscale_c m hi lo s w.heap.size _ hm0 hm1 hi0 hi1 lo0 lo1 (by exact HG.out)).mono ?_; rintro e w' ⟨rfl, n3, rfl⟩)
      | (go_at_call 110; refine (round_c _ _).mono ?_; rintro e w' ⟨rfl, rfl⟩))
    all_goals go_ret2
    all_goals refine ⟨?_, below_drewN hBw _⟩
    all_goals rw [HF.out, HT4.out, HR1.out, wrapu (a := dmax / 10 * 10) (by omega) (by omega)]
    · rw [if_pos (by assumption)]; rfl
    · rw [if_neg (by omega), if_pos (by assumption)]; rfl
    · rw [if_neg (by omega), if_neg (by omega)]; rfl
end Go.Proofs.YtfbgnonnbcejkaaGreatDoor
