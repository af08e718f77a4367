/- Lemmas on the way to the law FnWKTParts, without conditions beside those that each states: The small functions of internal/strconv that FormatFloat goes through: what each returns. -/
import Derived.Test.YtfbgnonnbcejkaaGreatDoorRows
import Derived.WalkKit
import Derived.WalkSpells
import Derived.WalkLawsBesides
import Derived.Lib.Hide
import Derived.Lib.BitFns
import Derived.Lib.Mul64
import Derived.Laws.Bits64b
import Derived.Deep.QuietTactic
import Derived.BigQuiet
namespace Go.Proofs.YtfbgnonnbcejkaaGreatDoor
open Go.RowKit

theorem ret_int {k : IntKind} {a b : Int} (h : a = b) : Ending.returned (.int k a) = .returned (.int k b) := by rw [h]
theorem ret_bool {a b : Bool} (h : a = b) : Ending.returned (.bool a) = .returned (.bool b) := by rw [h]
theorem quietEq {P : Program} {f : FuncId} {args : Array Value} {w : World} {n : Nat} {v : Value}
    (h : Calls P f args (w.drewN n) fun e w' => e = .returned v ∧ w.drewN n = w') : Calls P f args (w.drewN n) fun e w'' => e = .returned v ∧ ∃ m, w'' = w.drewN m :=
  h.mono fun _ _ ⟨he, hm⟩ => ⟨he, n, hm.symm⟩
theorem quietDrew {P : Program} {f : FuncId} {args : Array Value} {w : World} {n : Nat} {v : Value}
    (h : Calls P f args (w.drewN n) fun e w' => e = .returned v ∧ ∃ k, w' = (w.drewN n).drewN k) : Calls P f args (w.drewN n) fun e w'' => e = .returned v ∧ ∃ m, w'' = w.drewN m :=
  h.mono fun _ _ ⟨he, k, hm⟩ => ⟨he, n + k, by rw [hm, World.drewN_drewN]⟩

theorem bits_u64_range (o : BinOp) (a b : Int) : 0 ≤ bits o .u64 a b ∧ bits o .u64 a b < 18446744073709551616 := by
  unfold bits
  simp only [IntKind.wrap_u64]
  constructor <;> omega
theorem wrapu {a : Int} (h0 : 0 ≤ a) (h1 : a < 18446744073709551616) : IntKind.u64.wrap a = a := by rw [IntKind.wrap_u64]; omega
theorem wrap_u64_range (a : Int) : 0 ≤ IntKind.u64.wrap a ∧ IntKind.u64.wrap a < 18446744073709551616 := by
  rw [IntKind.wrap_u64]; omega

set_option maxHeartbeats 400000 in
theorem log10Pow2_c (x : Int) (w : World) (h0 : -100000 ≤ x) (h1 : x ≤ 100000) :
    Calls Tryz.prog 94 #[.int .i64 x] w fun e w' => e = .returned (.int .i64 (x * 78913 / 262144)) ∧ w = w' := by
  go_enter Tryz.func94, Tryz.ntmps94
  go_wp2
  go_ret
  exact ⟨rfl, rfl⟩
set_option maxHeartbeats 400000 in
theorem log2Pow10_c (x : Int) (w : World) (h0 : -100000 ≤ x) (h1 : x ≤ 100000) :
    Calls Tryz.prog 105 #[.int .i64 x] w fun e w' => e = .returned (.int .i64 (x * 108853 / 32768)) ∧ w = w' := by
  go_enter Tryz.func105, Tryz.ntmps105
  go_wp2
  go_ret
  exact ⟨rfl, rfl⟩
set_option maxHeartbeats 400000 in
theorem skewed_c (x : Int) (w : World) (h0 : -100000 ≤ x) (h1 : x ≤ 100000) :
    Calls Tryz.prog 103 #[.int .i64 x] w fun e w' => e = .returned (.int .i64 ((x * 631305 - 261663) / 2097152)) ∧ w = w' := by
  go_enter Tryz.func103, Tryz.ntmps103
  go_wp2
  go_ret
  exact ⟨rfl, rfl⟩
set_option maxHeartbeats 400000 in
theorem bool2i_c (b : Bool) (w : World) :
    Calls Tryz.prog 112 #[.bool b] w fun e w' => e = .returned (.int .i64 (if b = true then 1 else 0)) ∧ w = w' := by
  cases b <;>
  · go_enter Tryz.func112, Tryz.ntmps112
    go_wp2
    go_ret
    exact ⟨rfl, rfl⟩
set_option maxHeartbeats 400000 in
theorem bool2u_c (b : Bool) (w : World) :
    Calls Tryz.prog 124 #[.bool b] w fun e w' => e = .returned (.int .u64 (if b = true then 1 else 0)) ∧ w = w' := by
  cases b <;>
  · go_enter Tryz.func124, Tryz.ntmps124
    go_wp2
    go_ret
    exact ⟨rfl, rfl⟩
set_option maxHeartbeats 400000 in
theorem bool2r_c (b : Bool) (w : World) :
    Calls Tryz.prog 125 #[.bool b] w fun e w' => e = .returned (.int .u64 (if b = true then 1 else 0)) ∧ w = w' := by
  cases b <;>
  · go_enter Tryz.func125, Tryz.ntmps125
    go_wp2
    go_ret
    exact ⟨rfl, rfl⟩
def nudgeF (u d : Int) : Int := IntKind.u64.wrap (u + IntKind.u64.wrap d)
def ceilF (u : Int) : Int := IntKind.u64.wrap (u + 3) / 4
def floorF (u : Int) : Int := IntKind.u64.wrap (u + 0) / 4
def roundF (u : Int) : Int := IntKind.u64.wrap (IntKind.u64.wrap (u + 1) + bits .and .u64 (u / 4) 1) / 4
def unminF (u : Int) : Int := IntKind.u64.wrap (IntKind.u64.wrap (u * 4) - 2)
set_option maxHeartbeats 400000 in
theorem nudge_c (u d : Int) (w : World) :
    Calls Tryz.prog 107 #[.int .u64 u, .int .i64 d] w fun e w' => e = .returned (.int .u64 (nudgeF u d)) ∧ w = w' := by
  go_enter Tryz.func107, Tryz.ntmps107
  go_wp2
  go_ret
  exact ⟨rfl, rfl⟩
set_option maxHeartbeats 400000 in
theorem ceil_c (u : Int) (w : World) :
    Calls Tryz.prog 108 #[.int .u64 u] w fun e w' => e = .returned (.int .u64 (ceilF u)) ∧ w = w' := by
  go_enter Tryz.func108, Tryz.ntmps108
  go_wp2
  go_ret
  exact ⟨rfl, rfl⟩
set_option maxHeartbeats 400000 in
theorem floor_c (u : Int) (w : World) :
    Calls Tryz.prog 109 #[.int .u64 u] w fun e w' => e = .returned (.int .u64 (floorF u)) ∧ w = w' := by
  go_enter Tryz.func109, Tryz.ntmps109
  go_wp2
  go_ret
  exact ⟨ret_int (by simp [floorF]), rfl⟩
set_option maxHeartbeats 400000 in
theorem round_c (u : Int) (w : World) :
    Calls Tryz.prog 110 #[.int .u64 u] w fun e w' => e = .returned (.int .u64 (roundF u)) ∧ w = w' := by
  go_enter Tryz.func110, Tryz.ntmps110
  go_wp2
  go_ret
  exact ⟨rfl, rfl⟩
set_option maxHeartbeats 400000 in
theorem unmin_c (u : Int) (w : World) :
    Calls Tryz.prog 113 #[.int .u64 u] w fun e w' => e = .returned (.int .u64 (unminF u)) ∧ w = w' := by
  go_enter Tryz.func113, Tryz.ntmps113
  go_wp2
  go_ret
  exact ⟨rfl, rfl⟩

/-- (unrounded).div -/
def divF (u d : Int) : Int := bits .or .u64 (bits .or .u64 (u / d) (bits .and .u64 u 1)) (if (u % d != 0) = true then 1 else 0)
set_option maxHeartbeats 800000 in
theorem div10_c (u : Int) (h0 : 0 ≤ u) (h1 : u < 18446744073709551616) (w : World) :
    Calls Tryz.prog 114 #[.int .u64 u, .int .u64 10] w fun e w' => e = .returned (.int .u64 (divF u 10)) ∧ ∃ n, w' = w.drewN n := by
  by_cases ht : (u % 10 != 0) = true
  · have Hf : Hid (divF u 10 = bits .or .u64 (bits .or .u64 (u / 10) (bits .and .u64 u 1)) 1) := by
      apply Lib.hid; unfold divF; rw [if_pos ht]
    go_enter Tryz.func114, Tryz.ntmps114
    go_wp2_with fail
    go_quiet ((go_at_call 125; exact quietEq (bool2r_c _ _)))
    go_wp2
    go_ret
    exact ⟨ret_int Hf.out.symm, _, rfl⟩
  · have ht' := Bool.eq_false_iff.2 ht
    have Hf : Hid (divF u 10 = bits .or .u64 (bits .or .u64 (u / 10) (bits .and .u64 u 1)) 0) := by
      apply Lib.hid; unfold divF; rw [if_neg ht]
    clear ht
    go_enter Tryz.func114, Tryz.ntmps114
    go_wp2_with fail
    go_quiet ((go_at_call 125; exact quietEq (bool2r_c _ _)))
    go_wp2
    go_ret
    exact ⟨ret_int Hf.out.symm, _, rfl⟩

namespace Mul64
theorem maskN (a : Nat) (ha : a < 18446744073709551616) : bits .and .u64 (a : Int) 4294967295 = ((a % 4294967296 : Nat) : Int) := by
  have h := bits_and_u64_nat a 4294967295 ha (by omega)
  have e : a &&& 4294967295 = a % 4294967296 := Nat.and_two_pow_sub_one_eq_mod a 32
  rw [e] at h
  exact h
theorem divN (a : Nat) : (a : Int) / 4294967296 = ((a / 4294967296 : Nat) : Int) := by omega
theorem mulN (a b : Nat) : (a : Int) * (b : Int) = ((a * b : Nat) : Int) := (Int.natCast_mul a b).symm
theorem addN (a b : Nat) : (a : Int) + (b : Int) = ((a + b : Nat) : Int) := (Int.natCast_add a b).symm
theorem wrapN (a : Nat) (ha : a < 18446744073709551616) : IntKind.u64.wrap (a : Int) = (a : Int) := by rw [IntKind.wrap_u64]; omega
theorem wrapM (a : Nat) : IntKind.u64.wrap (a : Int) = ((a % 18446744073709551616 : Nat) : Int) := by rw [IntKind.wrap_u64]; omega
end Mul64
set_option maxHeartbeats 1000000 in
theorem mul64_c (x y : Int) (w : World) (hx0 : 0 ≤ x) (hx : x < 18446744073709551616) (hy0 : 0 ≤ y) (hy : y < 18446744073709551616) :
    Calls Tryz.prog 123 #[.int .u64 x, .int .u64 y] w fun e w' => e = .returned (.tuple #[.int .u64 (x * y / 18446744073709551616), .int .u64 (x * y % 18446744073709551616)]) ∧ w = w' := by
  obtain ⟨x, rfl⟩ := Int.eq_ofNat_of_zero_le hx0
  obtain ⟨y, rfl⟩ := Int.eq_ofNat_of_zero_le hy0
  have hx : x < 18446744073709551616 := by omega
  have hy : y < 18446744073709551616 := by omega
  obtain ⟨bd, bt, bw, hhi⟩ := Lib.mul64_hi x y hx hy
  have ba := Lib.half_mul_le (a := x / 4294967296) (b := y / 4294967296) (by omega) (by omega)
  have bb := Lib.half_mul_le (a := x / 4294967296) (b := y % 4294967296) (by omega) (by omega)
  have bc := Lib.half_mul_le (a := x % 4294967296) (b := y / 4294967296) (by omega) (by omega)
  have ba' : x / 4294967296 * (y / 4294967296) < 18446744073709551616 := by omega
  have bb' : x / 4294967296 * (y % 4294967296) < 18446744073709551616 := by omega
  have bc' : x % 4294967296 * (y / 4294967296) < 18446744073709551616 := by omega
  have bh1 : x / 4294967296 * (y / 4294967296) + (x / 4294967296 * (y % 4294967296) + x % 4294967296 * (y % 4294967296) / 4294967296) / 4294967296 < 18446744073709551616 := by omega
  have bh : x / 4294967296 * (y / 4294967296) + (x / 4294967296 * (y % 4294967296) + x % 4294967296 * (y % 4294967296) / 4294967296) / 4294967296 + ((x / 4294967296 * (y % 4294967296) + x % 4294967296 * (y % 4294967296) / 4294967296) % 4294967296 + x % 4294967296 * (y / 4294967296)) / 4294967296 < 18446744073709551616 := by omega
  clear hx0 hy0
  go_enter Tryz.func123, Tryz.ntmps123
  go_wp2
  simp only [Mul64.maskN x hx, Mul64.maskN y hy, Mul64.divN, Mul64.mulN, Mul64.addN, Mul64.wrapN _ bd, Mul64.wrapN _ bb', Mul64.wrapN _ bt, Mul64.maskN _ bt, Mul64.wrapN _ bc', Mul64.wrapN _ bw, Mul64.wrapN _ ba', Mul64.wrapN _ bh1, Mul64.wrapN _ bh, Mul64.wrapM (x * y)]
  rw [hhi]
  go_ret2
  exact ⟨by simp, rfl⟩

/-- What uscale computes, as the code does it. -/
def uscaleF (x hi lo s : Int) : Int :=
  if (IntKind.u64.wrap (x * hi / 18446744073709551616 / 2 ^ (bits .and .i64 s 63).toNat * 2 ^ (bits .and .i64 s 63).toNat) != x * hi / 18446744073709551616) = true then
    bits .or .u64 (x * hi / 18446744073709551616 / 2 ^ (bits .and .i64 s 63).toNat) 1
  else
    bits .or .u64 (IntKind.u64.wrap (x * hi / 18446744073709551616 - (if decide (x * hi % 18446744073709551616 < x * lo / 18446744073709551616) = true then 1 else 0)) / 2 ^ (bits .and .i64 s 63).toNat)
      (if decide (IntKind.u64.wrap (x * hi % 18446744073709551616 - x * lo / 18446744073709551616) > 1) = true then 1 else 0)
theorem uscaleF_range (x hi lo s : Int) : 0 ≤ uscaleF x hi lo s ∧ uscaleF x hi lo s < 18446744073709551616 := by
  unfold uscaleF
  split <;> exact bits_u64_range _ _ _
theorem divF_range (u d : Int) : 0 ≤ divF u d ∧ divF u d < 18446744073709551616 := bits_u64_range _ _ _

theorem and63 (s : Int) : 0 ≤ bits .and .i64 s 63 ∧ bits .and .i64 s 63 ≤ 63 := by
  have e : bits .and .i64 s 63 = IntKind.i64.wrap ((BitVec.ofInt 64 s &&& BitVec.ofInt 64 63).toNat : Int) := rfl
  have h2 : (BitVec.ofInt 64 s &&& BitVec.ofInt 64 63).toNat ≤ 63 := by
    rw [BitVec.toNat_and]
    exact Nat.le_trans Nat.and_le_right (by decide)
  rw [e, IntKind.wrap_i64]
  omega

theorem mul_div_range {x y : Int} (hx0 : 0 ≤ x) (hx : x < 18446744073709551616) (hy0 : 0 ≤ y) (hy : y < 18446744073709551616) :
    0 ≤ x * y / 18446744073709551616 ∧ x * y / 18446744073709551616 < 18446744073709551616 := by
  have h1 : x * y ≤ 18446744073709551615 * 18446744073709551615 := Int.mul_le_mul (by omega) (by omega) hy0 (by omega)
  have h2 : 0 ≤ x * y := Int.mul_nonneg hx0 hy0
  omega

set_option maxHeartbeats 800000 in
theorem uscale_c (x hi lo s : Int) (g : Nat) (w : World) (hx0 : 0 ≤ x) (hx : x < 18446744073709551616) (hh0 : 0 ≤ hi) (hhi : hi < 18446744073709551616) (hl0 : 0 ≤ lo) (hlo : lo < 18446744073709551616)
    (hg : w.heap[g]? = some (.cells #[.int .u64 hi, .int .u64 lo, .int .i64 s] 183 (0, 0))) :
    Calls Tryz.prog 106 #[.int .u64 x, .pointer (some ⟨g, 0, none⟩)] w fun en w' => en = .returned (.int .u64 (uscaleF x hi lo s)) ∧ ∃ n, w' = w.drewN n := by
  have d0 : w.cell? ⟨g, 0, none⟩ = some (.int .u64 hi) := by simp [World.cell?, hg]
  have d1 : w.cell? ⟨g, 1, none⟩ = some (.int .u64 lo) := by simp [World.cell?, hg]
  have d2 : w.cell? ⟨g, 2, none⟩ = some (.int .i64 s) := by simp [World.cell?, hg]
  clear hg
  obtain ⟨k0, k1⟩ := and63 s
  obtain ⟨r0, r1⟩ := mul_div_range hx0 hx hh0 hhi
  obtain ⟨r2, r3⟩ := mul_div_range hx0 hx hl0 hlo
  by_cases ht : (IntKind.u64.wrap (x * hi / 18446744073709551616 / 2 ^ (bits .and .i64 s 63).toNat * 2 ^ (bits .and .i64 s 63).toNat) != x * hi / 18446744073709551616) = true
  · have Hf : Hid (uscaleF x hi lo s = bits .or .u64 (x * hi / 18446744073709551616 / 2 ^ (bits .and .i64 s 63).toNat) 1) := Lib.hid (if_pos ht)
    go_enter Tryz.func106, Tryz.ntmps106
    go_wp2_with (first | (go_at_call 123; refine (mul64_c _ _ _ hx0 hx (by assumption) (by assumption)).mono ?_; rintro e w' ⟨rfl, rfl⟩) | (go_at_call 124; refine (bool2u_c _ _).mono ?_; rintro e w' ⟨rfl, rfl⟩))
    go_ret
    exact ⟨ret_int Hf.out.symm, 0, rfl⟩
  · have ht' := Bool.eq_false_iff.2 ht
    have Hf : Hid (uscaleF x hi lo s = bits .or .u64 (IntKind.u64.wrap (x * hi / 18446744073709551616 - (if decide (x * hi % 18446744073709551616 < x * lo / 18446744073709551616) = true then 1 else 0)) / 2 ^ (bits .and .i64 s 63).toNat)
      (if decide (IntKind.u64.wrap (x * hi % 18446744073709551616 - x * lo / 18446744073709551616) > 1) = true then 1 else 0)) := Lib.hid (if_neg ht)
    clear ht
    go_enter Tryz.func106, Tryz.ntmps106
    go_wp2_with (first | (go_at_call 123; refine (mul64_c _ _ _ hx0 hx (by assumption) (by assumption)).mono ?_; rintro e w' ⟨rfl, rfl⟩) | (go_at_call 124; refine (bool2u_c _ _).mono ?_; rintro e w' ⟨rfl, rfl⟩))
    all_goals go_quiet ((go_at_call 124; exact quietEq (bool2u_c _ _)))
    all_goals go_wp2
    all_goals go_ret
    all_goals exact ⟨ret_int (by rw [Hf.out]; simp only [decide_eq_true_eq]; (repeat' split) <;> first | rfl | (rw [Int.sub_zero, wrapu r0 r1]; done) | (rw [Int.sub_zero, wrapu r0 r1]; rfl) | (exfalso; omega) | (exfalso; rename_i h3; rw [wrapu (by omega) (by omega)] at h3; omega)), _, rfl⟩

end Go.Proofs.YtfbgnonnbcejkaaGreatDoor
