/- Lemmas on the way to the law FnWKTParts, without conditions beside those that each states: ftoa64: what it makes of a number's bits, as a function; and the facts that its walk wants. -/
import Derived.Test.YtfbgnonnbcejkaaGreatDoorY21
import Derived.Test.YtfbgnonnbcejkaaGreatDoorY22
import Derived.Lib.AppendStr
import Derived.Laws.Externs
namespace Go.Proofs.YtfbgnonnbcejkaaGreatDoor
open Go.RowKit
open Go.Lib (decDigits nDigits)

theorem run86 (b : Nat) (w : World) : (callFunc 86 #[.float .f64 b]).run Tryz.prog w = .ok (.value (.int .u64 b)) w := by
  rw [run_callFunc_extern (e := Extern.MathFloatBits.float64bits) Tryz.func86 (by kernel_rfl) (by kernel_rfl) (by kernel_rfl) (by kernel_rfl)]
  rfl
theorem zero176 : Tryz.zeroCells176 = Array.replicate 800 (.int .u8 0) ++ #[.int .i64 0, .int .i64 0, .bool false, .bool false] := by kernel_rfl

/-- The exponent's bits, the fraction's. -/
def expB (b : Nat) : Int := bits .and .i64 ((b : Int) / 4503599627370496) 2047
def fracB (b : Nat) : Int := bits .and .u64 (b : Int) 4503599627370495
def negB (b : Nat) : Bool := (b : Int) / 9223372036854775808 != 0
def expF (E : Int) : Int := if E = 0 then -1022 else E - 1023
def mantF (E M : Int) : Int := if E = 0 then M else bits .or .u64 M 4503599627370496
def nrm (m : Int) : Int := 64 - (Lib.bitLen m.toNat : Int)
def shlM (m : Int) : Int := IntKind.u64.wrap (m * 2 ^ (nrm m).toNat)
def shortT (neg : Bool) (m e : Int) : List UInt8 :=
  fmtF neg (stripZ (digs (shortF (shlM m) (e - nrm m - 52)).1)) ((digs (shortF (shlM m) (e - nrm m - 52)).1).length + (shortF (shlM m) (e - nrm m - 52)).2)
    (max ((stripZ (digs (shortF (shlM m) (e - nrm m - 52)).1)).length - ((digs (shortF (shlM m) (e - nrm m - 52)).1).length + (shortF (shlM m) (e - nrm m - 52)).2)) 0)
def fixN (e prec : Int) : Int := if 0 ≤ e then 1 + (1 + e) * 78913 / 262144 + prec else 1 + prec - (-e) * 78913 / 262144
def fixT (neg : Bool) (m e prec : Int) : List UInt8 :=
  if fixN e prec ≤ 0 then fmtF neg [] 0 prec
  else if fixedD (shlM m) (e - nrm m - 52) (fixN e prec) prec = 0 then fmtF neg [] 0 prec
  else fmtF neg (stripZ (digs (fixedD (shlM m) (e - nrm m - 52) (fixN e prec) prec))) ((digs (fixedD (shlM m) (e - nrm m - 52) (fixN e prec) prec)).length + fixedP (shlM m) (e - nrm m - 52) (fixN e prec) prec) prec
def slow0 (m : Int) : Dec := ⟨stripZ (decDigits m.toNat), (decDigits m.toNat).length, false⟩
def slow1 (m e : Int) : Dec := shiftD (e - 52) (slow0 m)
def slowD (m e prec : Int) : Dec := roundD (slow1 m e) ((slow1 m e).dp + prec)
def slowT (neg : Bool) (m e prec : Int) : List UInt8 := fmtF neg (slowD m e prec).D (slowD m e prec).dp prec
def finT (neg : Bool) (m e prec : Int) : List UInt8 :=
  if m = 0 then fmtF neg [] 0 prec else if prec < 0 then shortT neg m e else if fixN e prec ≤ 18 then fixT neg m e prec else slowT neg m e prec
/-- What FormatFloat writes of a number's bits at 'f'. -/
def ffL (b : Nat) (prec : Int) : List UInt8 :=
  if expB b = 2047 then (if fracB b ≠ 0 then [78, 97, 78] else if negB b then [45, 73, 110, 102] else [43, 73, 110, 102])
  else finT (negB b) (mantF (expB b) (fracB b)) (expF (expB b)) prec

theorem expB_range (b : Nat) : 0 ≤ expB b ∧ expB b ≤ 2047 := by
  unfold expB
  have e : bits .and .i64 ((b : Int) / 4503599627370496) 2047 = IntKind.i64.wrap ((BitVec.ofInt 64 ((b : Int) / 4503599627370496) &&& BitVec.ofInt 64 2047).toNat : Int) := rfl
  have h2 : (BitVec.ofInt 64 ((b : Int) / 4503599627370496) &&& BitVec.ofInt 64 2047).toNat ≤ 2047 := by
    rw [BitVec.toNat_and]
    exact Nat.le_trans Nat.and_le_right (by decide)
  rw [e, IntKind.wrap_i64]
  omega
theorem fracB_range (b : Nat) : 0 ≤ fracB b ∧ fracB b < 4503599627370496 := by
  unfold fracB
  have e : bits .and .u64 (b : Int) 4503599627370495 = IntKind.u64.wrap ((BitVec.ofInt 64 (b : Int) &&& BitVec.ofInt 64 4503599627370495).toNat : Int) := rfl
  have h2 : (BitVec.ofInt 64 (b : Int) &&& BitVec.ofInt 64 4503599627370495).toNat ≤ 4503599627370495 := by
    rw [BitVec.toNat_and]
    exact Nat.le_trans Nat.and_le_right (by decide)
  rw [e, wrapu (by omega) (by omega)]
  omega
theorem mantF_range (E M : Int) (h0 : 0 ≤ M) (h1 : M < 4503599627370496) : 0 ≤ mantF E M ∧ mantF E M < 9007199254740992 := by
  unfold mantF
  split
  · omega
  · have e : bits .or .u64 M 4503599627370496 = IntKind.u64.wrap ((BitVec.ofInt 64 M ||| BitVec.ofInt 64 4503599627370496).toNat : Int) := rfl
    have h2 : (BitVec.ofInt 64 M ||| BitVec.ofInt 64 4503599627370496).toNat < 2 ^ 53 := by
      rw [BitVec.toNat_or]
      refine Nat.or_lt_two_pow ?_ (by decide)
      obtain ⟨n, rfl⟩ : ∃ n : Nat, M = n := ⟨M.toNat, by omega⟩
      rw [BitVec.ofInt_natCast, BitVec.toNat_ofNat]
      have : (2 : Nat) ^ 53 = 9007199254740992 := by decide
      omega
    have : (2 : Nat) ^ 53 = 9007199254740992 := by decide
    rw [e, wrapu (by omega) (by omega)]
    omega
theorem bitLen53 (m : Int) (h0 : 0 < m) (h1 : m < 9007199254740992) : 1 ≤ Lib.bitLen m.toNat ∧ Lib.bitLen m.toNat ≤ 53 := by
  have h2 := Lib.bitLen_le m.toNat 53 (by decide) (by have : (2 : Nat) ^ 53 = 9007199254740992 := by decide
                                                      omega)
  have h3 := Lib.bitLen_half m.toNat (by omega) (by have : (2 : Nat) ^ 64 = 18446744073709551616 := by decide
                                                    omega)
  omega
theorem fixedP_range (m e n prec : Int) (hp0 : 0 ≤ prec) (hp1 : prec ≤ 100) (hq0 : -347 ≤ n - 1 - (e + 63) * 78913 / 262144) (hq1 : n - 1 - (e + 63) * 78913 / 262144 < 348) : -400 ≤ fixedP m e n prec ∧ fixedP m e n prec ≤ 400 := by
  unfold fixedP fixedP1
  split <;> omega
theorem shlM_range (m : Int) : 0 ≤ shlM m ∧ shlM m < 18446744073709551616 := wrap_u64_range _
theorem slow_facts (m : Int) (hm0 : 0 < m) (hm1 : m < 9007199254740992) :
    Good (slow0 m).D ∧ (slow0 m).dp ≤ 20 ∧ 0 ≤ (slow0 m).dp := by
  have h20 := nDigits_20 m.toNat (by omega)
  refine ⟨(good_dec m.toNat (by omega) (by omega)).strip, ?_, ?_⟩
  · unfold slow0; dsimp only; rw [Go.Lib.decDigits_length]; omega
  · unfold slow0; dsimp only; omega

/-- A row of the call's own stays where only blocks behind it turn. -/
theorem own_below {w w' : World} {base : Nat} {e : TypeId} {size : Nat} {v : Value} {n : Nat} {xs : List Value} {K : Nat} (h : w.ownsRow base e size v n xs) (hK : w.heap.size ≤ K) (hb : Below K w w') : w'.ownsRow base e size v n xs := by
  have hlt := h.lt
  refine ⟨h.1, ?_⟩
  rcases h.2 with hn | ⟨g, cap, cur, rfl, hbg, hg, rest⟩
  · exact .inl hn
  · exact .inr ⟨g, cap, cur, rfl, hbg, (hb.block g (by have := (hlt g rfl).2; omega)).trans hg, rest⟩
theorem ReadsB.take {w : World} {k off : Nat} {l : List UInt8} (h : ReadsB w k off l) (n : Nat) : ReadsB w k off (l.take n) := by
  intro j hj
  rw [List.length_take] at hj
  rw [h j (by omega), List.getD_eq_getElem?_getD, List.getD_eq_getElem?_getD, List.getElem?_take, if_pos (by omega)]
theorem ReadsB.nil (w : World) (k off : Nat) : ReadsB w k off [] := fun _ hj => absurd hj (Nat.not_lt_zero _)
/-- 'append(dst, "..")'. -/
theorem wp_appendS {ops : Array Oper} {rest : List Oper} {o : Oper} {a : Act} {Q : Exit → Act → World → Prop} {w : World} (hgd : o.guard = none) (s x : Operand)
    (ho : o.op = .call { callee := .builtin .append, args := #[s, x], argTypes := #[93, 9] }) (N : Nat) (v : Value) (hs : a.eval s = v) (hown : w.ownsRow N 5 1 v 0 [])
    (t : ByteArray) (hx : a.eval x = .string t) (ht : t.size ≤ 100) (hN : N ≤ w.heap.size)
    (h : ∀ v' w', w'.ownsRow N 5 1 v' t.data.toList.length (Lib.byteCells t.data.toList) → Below N w w' → wpList Tryz.prog ops Q rest (a.put o.dst v') w') : wpList Tryz.prog ops Q (o :: rest) a w := by
  obtain ⟨i0, hi, hz0, hz1, hz2⟩ := info_parts info5
  refine Lib.wpList_append_own_string w hgd s x 93 9 ho N 5 i0 Tryz.underlying93 Tryz.underlying9 hi hz0 hz1 hz2 v 0 [] hs hown t hx (by unfold maxLen; omega) (by omega) hN (fun v' w' h1 h2 _ => h v' w' ?_ ((Below.refl N w).grown h2 hN (fun j hj => (hown.lt j hj).1)))
  have e : t.size = t.data.toList.length := by simp
  rw [← e]
  simpa [Lib.strCells, Lib.byteCells] using h1
end Go.Proofs.YtfbgnonnbcejkaaGreatDoor
