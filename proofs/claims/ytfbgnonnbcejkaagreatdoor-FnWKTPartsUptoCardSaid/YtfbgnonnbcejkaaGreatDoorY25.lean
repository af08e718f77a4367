/- Lemmas on the way to the law FnWKTParts, without conditions beside those that each states: ftoa64: its ways together. -/
import Derived.Test.YtfbgnonnbcejkaaGreatDoorY24
namespace Go.Proofs.YtfbgnonnbcejkaaGreatDoor
open Go.RowKit

set_option maxHeartbeats 12800000 in
set_option maxRecDepth 100000 in
theorem ftoaG {B N : Nat} (b : Nat) (prec : Int) (v : Value) (w : World) (T : Tabs B w) (hB : B ≤ w.heap.size) (hb : b < 18446744073709551616) (hp0 : -1 ≤ prec) (hp1 : prec ≤ 20)
    (hown : w.ownsRow N 5 1 v 0 []) (_hBN : B ≤ N) (hN : N ≤ w.heap.size)
    (h2047' : Hid ((expB b) ≠ 2047)) (hm00' : Hid ((mantF (expB b) (fracB b)) ≠ 0)) (hp' : Hid (0 ≤ prec)) (h18' : Hid (fixN (expF (expB b)) prec ≤ 18)) (hn0' : Hid (0 < fixN (expF (expB b)) prec)) (hd00' : Hid (fixedD (shlM (mantF (expB b) (fracB b))) ((expF (expB b)) - nrm (mantF (expB b) (fracB b)) - 52) (fixN (expF (expB b)) prec) prec = 0)) :
    Calls Tryz.prog 84 #[v, .float .f64 b, .int .u8 102, .int .i64 prec] w fun e w' => ∃ v', e = .returned v' ∧ w'.ownsRow N 5 1 v' (ffL b prec).length (Lib.byteCells (ffL b prec)) ∧ Below N w w' := by
  have h86 := run86 b
  have hE : bits .and .i64 ((b : Int) / 4503599627370496) 2047 = expB b := rfl
  have hM : bits .and .u64 (b : Int) 4503599627370495 = fracB b := rfl
  have hn : ((b : Int) / 9223372036854775808 != 0) = negB b := rfl
  obtain ⟨hE0, hE1⟩ := expB_range b
  obtain ⟨hM0, hM1⟩ := fracB_range b
  have hff : ffL b prec = if expB b = 2047 then (if fracB b ≠ 0 then [78, 97, 78] else if negB b then [45, 73, 110, 102] else [43, 73, 110, 102])
    else finT (negB b) (mantF (expB b) (fracB b)) (expF (expB b)) prec := rfl
  generalize expB b = E at *
  generalize fracB b = M at *
  generalize negB b = neg at *
  generalize ffL b prec = L at *
  have Hff := Lib.hid hff
  have Hown := Lib.hid hown
  clear hff hown
  go_enter Tryz.func84, Tryz.ntmps84
  go_wp2
  go_quiet (fail)
  go_upto_if 67 with fail
  have h2047 := h2047'.out
  have he : (E == 2047) = false := by simpa using h2047
  have Hff2 : Hid (L = finT neg (mantF E M) (expF E) prec) := Lib.hid (by rw [Hff.out, if_neg h2047])
  go_upto_if 78 with fail
  go_cut [14, 15] (fun s14 s15 wx => s14 = .int .i64 (expF E + 1023) ∧ s15 = .int .u64 (mantF E M) ∧ ∃ n, wx = w.drewN n)
  case first =>
    clear Hff Hown h2047
    by_cases h0 : E = 0
    · subst h0
      go_wp2
      go_meet
      case rel => exact ⟨rfl, rfl, _, rfl⟩
    · have he0 : (E == 0) = false := by simpa using h0
      have e1 : expF E + 1023 = E := by unfold expF; rw [if_neg h0]; omega
      have e2 : mantF E M = bits .or .u64 M 4503599627370496 := if_neg h0
      have E1 := Lib.hid e1
      have E2 := Lib.hid e2
      clear e1 e2 h0
      go_wp2
      go_meet
      case rel => exact ⟨by rw [E1.out], by rw [E2.out], _, rfl⟩
  case rest =>
    obtain ⟨rfl, rfl, n0, rfl⟩ := hcut
    have hm := mantF_range E M hM0 hM1
    have he : -1022 ≤ expF E ∧ expF E ≤ 1024 := by unfold expF; split <;> omega
    clear Hff h2047 hE hM hn h86 hE0 hE1 hM0 hM1
    generalize expF E = e at *
    generalize mantF E M = m at *
    obtain ⟨hm0, hm1⟩ := hm
    obtain ⟨he0, he1⟩ := he
    have Ho2 : Hid ((w.drewN n0).ownsRow N 5 1 v 0 []) := Hown
    have Tn := T.drewN n0
    have hw2 : Below N w (w.drewN n0) := below_drewN (Below.refl _ _) _
    have Hbw := Lib.hid hw2
    have hB2 : B ≤ (w.drewN n0).heap.size := hB
    have hN2 : N ≤ (w.drewN n0).heap.size := hN
    clear Hown T hw2 hB hN
    generalize hww : w.drewN n0 = w2 at *
    clear hww
    go_upto_region 26 with fail
    rw [show e + 1023 + -1023 = e by omega]
    have hm00 := hm00'.out
    have hm2 : (m == 0) = false := by simpa using hm00
    have Hff3 : Hid (L = if prec < 0 then shortT neg m e else if fixN e prec ≤ 18 then fixT neg m e prec else slowT neg m e prec) := Lib.hid (by rw [Hff2.out, finT, if_neg hm00])
    have hbl := bitLen53 m (by omega) hm1
    clear Hff2
    have hp : ¬ prec < 0 := by have := hp'.out; omega
    have hL : Hid (L = if fixN e prec ≤ 18 then fixT neg m e prec else slowT neg m e prec) := Lib.hid (by rw [Hff3.out, if_neg hp])
    clear Hff3
    have hopt := Tn.opt
    have hnr : 64 - (Lib.bitLen m.toNat : Int) = nrm m := rfl
    have hsh : IntKind.u64.wrap (m * 2 ^ (nrm m).toNat) = shlM m := rfl
    have hfn : fixN e prec = if 0 ≤ e then 1 + (1 + e) * 78913 / 262144 + prec else 1 + prec - (-e) * 78913 / 262144 := rfl
    have Hfn := Lib.hid hfn
    clear hfn
    go_upto_block 2 with fail
    go_cut [3, 24] (fun s3 s24 wx => s3 = .int .i64 prec ∧ s24 = .int .i64 (fixN e prec) ∧ wx = w2)
    case first =>
      by_cases he00 : 0 ≤ e
      · have Hf1 : Hid (fixN e prec = 1 + (1 + e) * 78913 / 262144 + prec) := Lib.hid (by rw [Hfn.out, if_pos he00])
        clear Hfn
        go_wp2_with (go_at_call 94; refine (log10Pow2_c (1 + e) _ (by omega) (by omega)).mono ?_; rintro e w' ⟨rfl, rfl⟩)
        go_meet
        case rel => exact ⟨rfl, by rw [Hf1.out], rfl⟩
      · have Hf1 : Hid (fixN e prec = 1 + prec - (-e) * 78913 / 262144) := Lib.hid (by rw [Hfn.out, if_neg he00])
        clear Hfn
        go_wp2_with (go_at_call 94; refine (log10Pow2_c (-e) _ (by omega) (by omega)).mono ?_; rintro e w' ⟨rfl, rfl⟩)
        go_meet
        case rel => exact ⟨rfl, by rw [Hf1.out], rfl⟩
    case rest =>
      obtain ⟨rfl, rfl, rfl⟩ := hcut
      have hnb : -400 ≤ fixN e prec ∧ fixN e prec ≤ 400 := by rw [Hfn.out]; split <;> omega
      have hL2 : L = if fixN e prec ≤ 18 then (if fixN e prec ≤ 0 then fmtF neg [] 0 prec
        else if fixedD (shlM m) (e - nrm m - 52) (fixN e prec) prec = 0 then fmtF neg [] 0 prec
        else fmtF neg (stripZ (digs (fixedD (shlM m) (e - nrm m - 52) (fixN e prec) prec))) ((digs (fixedD (shlM m) (e - nrm m - 52) (fixN e prec) prec)).length + fixedP (shlM m) (e - nrm m - 52) (fixN e prec) prec) prec)
        else slowT neg m e prec := hL.out
      obtain ⟨hM0, hM1⟩ := shlM_range m
      have hs0 : 11 ≤ nrm m ∧ nrm m ≤ 63 := by unfold nrm; omega
      obtain ⟨hs0, hs1⟩ := hs0
      clear hL Hfn hopt
      generalize fixN e prec = n at *
      obtain ⟨hnb0, hnb1⟩ := hnb
      have h18 := h18'.out
      rw [if_pos h18] at hL2
      have hlt := Ho2.out.lt
      have hvk : v.ownBlock ≠ some wc.heap.size := fun h => by have := (hlt _ h).2; omega
      have hn0 : ¬ n ≤ 0 := by have := hn0'.out; omega
      rw [if_neg hn0] at hL2
      have hC := Lib.hid (fun w' (T' : Tabs B w') hB' => fixed_c (B := B) (shlM m) (e - nrm m - 52) n prec w' T' hB' hM0 hM1 (by omega) (by omega) (by omega) (by omega) (by omega) (by omega) (by omega) (by omega))
      have hd01 : 0 ≤ fixedD (shlM m) (e - nrm m - 52) n prec ∧ fixedD (shlM m) (e - nrm m - 52) n prec < 18446744073709551616 := roundF_range _
      obtain ⟨hd0, hd1⟩ := hd01
      obtain ⟨hpp0, hpp1⟩ := fixedP_range (shlM m) (e - nrm m - 52) n prec (by omega) (by omega) (by omega) (by omega)
      generalize nrm m = s at *
      generalize shlM m = M2 at *
      generalize fixedD M2 (e - s - 52) n prec = d at *
      generalize fixedP M2 (e - s - 52) n prec = p at *
      have hd00 := hd00'.out
      rw [if_pos hd00] at hL2
      subst hd00
      have HL2 := Lib.hid hL2
      clear hL2 hd0 hd1 hlt
      have hC6 : Hid (∀ w5, Below (wc.heap.size + 1) (wc.alloc (.cells (Array.replicate 24 (.int .u8 0)) 171)) w5 → Calls Tryz.prog 89 #[v, .bool neg, .slice (some ⟨wc.heap.size, 0, none⟩) 24 24, .int .i64 0, .int .i64 0, .int .i64 prec, .int .u8 102, .bool false] w5 (RetB N wc.heap.size (fmtF neg [] 0 prec) w5)) :=
        Lib.hid fun w5 hb5 => fmtCall0 N wc.heap.size v neg prec w5 (own_below (Ho2.out.alloc _) (by rw [World.size_alloc]; omega) hb5) hvk
          (by have := hb5.size; rw [World.size_alloc] at this; omega) (by have := hb5.size; rw [World.size_alloc] at this; omega) (by omega) hp1
      have Hbo : Hid (∀ w5, Below (wc.heap.size + 1) (wc.alloc (.cells (Array.replicate 24 (.int .u8 0)) 171)) w5 → Below N w w5) := Lib.hid fun w5 hb5 => Hbw.out.trans (((Below.refl N wc).alloc hN2 _).trans (hb5.mono (by omega)))
      go_upto_region 73 with (first | (go_at_call 90; refine (len64_c m _ hm0 (by omega)).mono ?_; rintro e w' ⟨rfl, rfl⟩) | (go_at_call 95; refine (hC.out _ (Tn.alloc hB2 _) (by simp; omega)).mono ?_; rintro e1 w3 ⟨rfl, hb3⟩))
      have hb4 : Below (wc.heap.size + 1) (wc.alloc (.cells (Array.replicate 24 (.int .u8 0)) 171)) w3 := by
        have := hb3
        rw [World.size_alloc] at this
        exact this
      have Hb4 := Lib.hid hb4
      clear hb3 hb4 Ho2 Tn Hbw hvk hC
      generalize wc.heap.size = k at *
      go_wp2_with (go_at_call 89; refine (hC6.out _ Hb4.out).mono ?_; rintro e6 w6 ⟨v6, rfl, ho6, hf6⟩)
      go_ret
      exact ⟨_, rfl, by rw [HL2.out]; exact ho6.1, (Hbo.out _ Hb4.out).trans hf6.1⟩
end Go.Proofs.YtfbgnonnbcejkaaGreatDoor
namespace Go.Proofs.YtfbgnonnbcejkaaGreatDoor
open Go.RowKit

set_option maxHeartbeats 12800000 in
set_option maxRecDepth 100000 in
theorem ftoaH {B N : Nat} (b : Nat) (prec : Int) (v : Value) (w : World) (T : Tabs B w) (hB : B ≤ w.heap.size) (hb : b < 18446744073709551616) (hp0 : -1 ≤ prec) (hp1 : prec ≤ 20)
    (hown : w.ownsRow N 5 1 v 0 []) (_hBN : B ≤ N) (hN : N ≤ w.heap.size)
    (h2047' : Hid ((expB b) ≠ 2047)) (hm00' : Hid ((mantF (expB b) (fracB b)) ≠ 0)) (hp' : Hid (0 ≤ prec)) (h18' : Hid (fixN (expF (expB b)) prec ≤ 18)) (hn0' : Hid (0 < fixN (expF (expB b)) prec)) (hd00' : Hid (fixedD (shlM (mantF (expB b) (fracB b))) ((expF (expB b)) - nrm (mantF (expB b) (fracB b)) - 52) (fixN (expF (expB b)) prec) prec ≠ 0)) :
    Calls Tryz.prog 84 #[v, .float .f64 b, .int .u8 102, .int .i64 prec] w fun e w' => ∃ v', e = .returned v' ∧ w'.ownsRow N 5 1 v' (ffL b prec).length (Lib.byteCells (ffL b prec)) ∧ Below N w w' := by
  have h86 := run86 b
  have hE : bits .and .i64 ((b : Int) / 4503599627370496) 2047 = expB b := rfl
  have hM : bits .and .u64 (b : Int) 4503599627370495 = fracB b := rfl
  have hn : ((b : Int) / 9223372036854775808 != 0) = negB b := rfl
  obtain ⟨hE0, hE1⟩ := expB_range b
  obtain ⟨hM0, hM1⟩ := fracB_range b
  have hff : ffL b prec = if expB b = 2047 then (if fracB b ≠ 0 then [78, 97, 78] else if negB b then [45, 73, 110, 102] else [43, 73, 110, 102])
    else finT (negB b) (mantF (expB b) (fracB b)) (expF (expB b)) prec := rfl
  generalize expB b = E at *
  generalize fracB b = M at *
  generalize negB b = neg at *
  generalize ffL b prec = L at *
  have Hff := Lib.hid hff
  have Hown := Lib.hid hown
  clear hff hown
  go_enter Tryz.func84, Tryz.ntmps84
  go_wp2
  go_quiet (fail)
  go_upto_if 67 with fail
  have h2047 := h2047'.out
  have he : (E == 2047) = false := by simpa using h2047
  have Hff2 : Hid (L = finT neg (mantF E M) (expF E) prec) := Lib.hid (by rw [Hff.out, if_neg h2047])
  go_upto_if 78 with fail
  go_cut [14, 15] (fun s14 s15 wx => s14 = .int .i64 (expF E + 1023) ∧ s15 = .int .u64 (mantF E M) ∧ ∃ n, wx = w.drewN n)
  case first =>
    clear Hff Hown h2047
    by_cases h0 : E = 0
    · subst h0
      go_wp2
      go_meet
      case rel => exact ⟨rfl, rfl, _, rfl⟩
    · have he0 : (E == 0) = false := by simpa using h0
      have e1 : expF E + 1023 = E := by unfold expF; rw [if_neg h0]; omega
      have e2 : mantF E M = bits .or .u64 M 4503599627370496 := if_neg h0
      have E1 := Lib.hid e1
      have E2 := Lib.hid e2
      clear e1 e2 h0
      go_wp2
      go_meet
      case rel => exact ⟨by rw [E1.out], by rw [E2.out], _, rfl⟩
  case rest =>
    obtain ⟨rfl, rfl, n0, rfl⟩ := hcut
    have hm := mantF_range E M hM0 hM1
    have he : -1022 ≤ expF E ∧ expF E ≤ 1024 := by unfold expF; split <;> omega
    clear Hff h2047 hE hM hn h86 hE0 hE1 hM0 hM1
    generalize expF E = e at *
    generalize mantF E M = m at *
    obtain ⟨hm0, hm1⟩ := hm
    obtain ⟨he0, he1⟩ := he
    have Ho2 : Hid ((w.drewN n0).ownsRow N 5 1 v 0 []) := Hown
    have Tn := T.drewN n0
    have hw2 : Below N w (w.drewN n0) := below_drewN (Below.refl _ _) _
    have Hbw := Lib.hid hw2
    have hB2 : B ≤ (w.drewN n0).heap.size := hB
    have hN2 : N ≤ (w.drewN n0).heap.size := hN
    clear Hown T hw2 hB hN
    generalize hww : w.drewN n0 = w2 at *
    clear hww
    go_upto_region 26 with fail
    rw [show e + 1023 + -1023 = e by omega]
    have hm00 := hm00'.out
    have hm2 : (m == 0) = false := by simpa using hm00
    have Hff3 : Hid (L = if prec < 0 then shortT neg m e else if fixN e prec ≤ 18 then fixT neg m e prec else slowT neg m e prec) := Lib.hid (by rw [Hff2.out, finT, if_neg hm00])
    have hbl := bitLen53 m (by omega) hm1
    clear Hff2
    have hp : ¬ prec < 0 := by have := hp'.out; omega
    have hL : Hid (L = if fixN e prec ≤ 18 then fixT neg m e prec else slowT neg m e prec) := Lib.hid (by rw [Hff3.out, if_neg hp])
    clear Hff3
    have hopt := Tn.opt
    have hnr : 64 - (Lib.bitLen m.toNat : Int) = nrm m := rfl
    have hsh : IntKind.u64.wrap (m * 2 ^ (nrm m).toNat) = shlM m := rfl
    have hfn : fixN e prec = if 0 ≤ e then 1 + (1 + e) * 78913 / 262144 + prec else 1 + prec - (-e) * 78913 / 262144 := rfl
    have Hfn := Lib.hid hfn
    clear hfn
    go_upto_block 2 with fail
    go_cut [3, 24] (fun s3 s24 wx => s3 = .int .i64 prec ∧ s24 = .int .i64 (fixN e prec) ∧ wx = w2)
    case first =>
      by_cases he00 : 0 ≤ e
      · have Hf1 : Hid (fixN e prec = 1 + (1 + e) * 78913 / 262144 + prec) := Lib.hid (by rw [Hfn.out, if_pos he00])
        clear Hfn
        go_wp2_with (go_at_call 94; refine (log10Pow2_c (1 + e) _ (by omega) (by omega)).mono ?_; rintro e w' ⟨rfl, rfl⟩)
        go_meet
        case rel => exact ⟨rfl, by rw [Hf1.out], rfl⟩
      · have Hf1 : Hid (fixN e prec = 1 + prec - (-e) * 78913 / 262144) := Lib.hid (by rw [Hfn.out, if_neg he00])
        clear Hfn
        go_wp2_with (go_at_call 94; refine (log10Pow2_c (-e) _ (by omega) (by omega)).mono ?_; rintro e w' ⟨rfl, rfl⟩)
        go_meet
        case rel => exact ⟨rfl, by rw [Hf1.out], rfl⟩
    case rest =>
      obtain ⟨rfl, rfl, rfl⟩ := hcut
      have hnb : -400 ≤ fixN e prec ∧ fixN e prec ≤ 400 := by rw [Hfn.out]; split <;> omega
      have hL2 : L = if fixN e prec ≤ 18 then (if fixN e prec ≤ 0 then fmtF neg [] 0 prec
        else if fixedD (shlM m) (e - nrm m - 52) (fixN e prec) prec = 0 then fmtF neg [] 0 prec
        else fmtF neg (stripZ (digs (fixedD (shlM m) (e - nrm m - 52) (fixN e prec) prec))) ((digs (fixedD (shlM m) (e - nrm m - 52) (fixN e prec) prec)).length + fixedP (shlM m) (e - nrm m - 52) (fixN e prec) prec) prec)
        else slowT neg m e prec := hL.out
      obtain ⟨hM0, hM1⟩ := shlM_range m
      have hs0 : 11 ≤ nrm m ∧ nrm m ≤ 63 := by unfold nrm; omega
      obtain ⟨hs0, hs1⟩ := hs0
      clear hL Hfn hopt
      generalize fixN e prec = n at *
      obtain ⟨hnb0, hnb1⟩ := hnb
      have h18 := h18'.out
      rw [if_pos h18] at hL2
      have hlt := Ho2.out.lt
      have hvk : v.ownBlock ≠ some wc.heap.size := fun h => by have := (hlt _ h).2; omega
      have hn0 : ¬ n ≤ 0 := by have := hn0'.out; omega
      rw [if_neg hn0] at hL2
      have hC := Lib.hid (fun w' (T' : Tabs B w') hB' => fixed_c (B := B) (shlM m) (e - nrm m - 52) n prec w' T' hB' hM0 hM1 (by omega) (by omega) (by omega) (by omega) (by omega) (by omega) (by omega) (by omega))
      have hd01 : 0 ≤ fixedD (shlM m) (e - nrm m - 52) n prec ∧ fixedD (shlM m) (e - nrm m - 52) n prec < 18446744073709551616 := roundF_range _
      obtain ⟨hd0, hd1⟩ := hd01
      obtain ⟨hpp0, hpp1⟩ := fixedP_range (shlM m) (e - nrm m - 52) n prec (by omega) (by omega) (by omega) (by omega)
      generalize nrm m = s at *
      generalize shlM m = M2 at *
      generalize fixedD M2 (e - s - 52) n prec = d at *
      generalize fixedP M2 (e - s - 52) n prec = p at *
      have hd00 := hd00'.out
      rw [if_neg hd00] at hL2
      have hdz : (d != 0) = true := by simpa using hd00
      have hdn := digs_len d
      have hdl := digs_le d hd0 hd1
      generalize hl : digs d = l at *
      have Hl := Lib.hid hl
      have HL2 := Lib.hid hL2
      clear hl hL2 hlt
      go_upto_region 74 with (first | (go_at_call 90; refine (len64_c m _ hm0 (by omega)).mono ?_; rintro e w' ⟨rfl, rfl⟩) | (go_at_call 95; refine (hC.out _ (Tn.alloc hB2 _) (by simp; omega)).mono ?_; rintro e1 w3 ⟨rfl, hb3⟩))
      have hbk : Below (wc.heap.size + 1) (wc.alloc (.cells (Array.replicate 24 (.int .u8 0)) 171)) w3 := by
        have := hb3
        rw [World.size_alloc] at this
        exact this
      clear hb3
      have hblk : w3.heap[wc.heap.size]? = some (.cells (Array.replicate 24 (.int .u8 0)) 171 (0, 0)) := (hbk.block _ (by omega)).trans (heap_alloc_new _ _)
      have Ho3 : Hid (w3.ownsRow N 5 1 v 0 []) := Lib.hid (own_below (Ho2.out.alloc _) (by rw [World.size_alloc]; omega) hbk)
      have T3 : Tabs B w3 := (Tn.alloc hB2 _).below (hbk.mono (by omega))
      have hk3 : wc.heap.size < w3.heap.size := by have := hbk.size; rw [World.size_alloc] at this; omega
      have hkN : N ≤ wc.heap.size := hN2
      have Hvl : Hid (∀ j, v.ownBlock = some j → j < wc.heap.size) := Lib.hid (fun j h => (Ho2.out.lt j h).2)
      have Hb3 : Hid (Below N w w3) := Lib.hid (Hbw.out.trans (((Below.refl N wc).alloc hN2 _).trans (hbk.mono (by omega))))
      clear hbk Ho2 Tn Hbw
      have Hblk := Lib.hid hblk
      clear hblk
      generalize wc.heap.size = k at *
      clear hsh hnr hC
      go_region_with ((first | (go_at_call 93; refine (numDigits_c (B := B) d _ (by first | exact T3 | exact T3.drewN _) hd0 hd1).mono ?_; rintro e4 w4 ⟨rfl, rfl⟩) | (go_at_call 92; refine (setDigits_c (t := 171) k 24 d p l _ hd0 hd1 (by omega) (by omega) Hl.out.symm (by omega) (by omega) (by exact Hblk.out)).mono ?_; rintro e5 w5 ⟨rfl, hr5, ho5⟩)))
      have Ho5 : Hid (w5.ownsRow N 5 1 v 0 []) := Lib.hid (own_below' (w := w3.drew) Ho3.out Hvl.out ho5.1)
      have e5 : w5.heap.size = w3.heap.size := ho5.2
      have hk5 : k < w5.heap.size := by omega
      have hN5 : N ≤ w5.heap.size := by omega
      have hC6 := Lib.hid (fmtCallS N k v l neg p prec w5 Ho5.out hvk hN5 hk5 hdl hpp0 hpp1 (by omega) hp1 hr5)
      have Hb6 : Hid (Below N w w5) := Lib.hid (Hb3.out.trans ((Below.refl N w3).drew.trans (ho5.1.mono hkN)))
      clear e5 hr5 ho5
      go_wp2_with (go_at_call 89; refine hC6.out.mono ?_; rintro e6 w6 ⟨v6, rfl, ho6, hf6⟩)
      go_ret
      exact ⟨_, rfl, by rw [HL2.out]; exact ho6.1, Hb6.out.trans hf6.1⟩
end Go.Proofs.YtfbgnonnbcejkaaGreatDoor
namespace Go.Proofs.YtfbgnonnbcejkaaGreatDoor
open Go.RowKit

set_option maxHeartbeats 12800000 in
set_option maxRecDepth 100000 in
theorem ftoaW {B N : Nat} (b : Nat) (prec : Int) (v : Value) (w : World) (T : Tabs B w) (hB : B ≤ w.heap.size) (hb : b < 18446744073709551616) (hp0 : -1 ≤ prec) (hp1 : prec ≤ 20)
    (hown : w.ownsRow N 5 1 v 0 []) (_hBN : B ≤ N) (hN : N ≤ w.heap.size)
    (h2047' : Hid ((expB b) ≠ 2047)) (hm00' : Hid ((mantF (expB b) (fracB b)) ≠ 0)) (hp' : Hid (0 ≤ prec)) (h18' : Hid (18 < fixN (expF (expB b)) prec)) :
    Calls Tryz.prog 84 #[v, .float .f64 b, .int .u8 102, .int .i64 prec] w fun e w' => ∃ v', e = .returned v' ∧ w'.ownsRow N 5 1 v' (ffL b prec).length (Lib.byteCells (ffL b prec)) ∧ Below N w w' := by
  have h86 := run86 b
  have hE : bits .and .i64 ((b : Int) / 4503599627370496) 2047 = expB b := rfl
  have hM : bits .and .u64 (b : Int) 4503599627370495 = fracB b := rfl
  have hn : ((b : Int) / 9223372036854775808 != 0) = negB b := rfl
  obtain ⟨hE0, hE1⟩ := expB_range b
  obtain ⟨hM0, hM1⟩ := fracB_range b
  have hff : ffL b prec = if expB b = 2047 then (if fracB b ≠ 0 then [78, 97, 78] else if negB b then [45, 73, 110, 102] else [43, 73, 110, 102])
    else finT (negB b) (mantF (expB b) (fracB b)) (expF (expB b)) prec := rfl
  generalize expB b = E at *
  generalize fracB b = M at *
  generalize negB b = neg at *
  generalize ffL b prec = L at *
  have Hff := Lib.hid hff
  have Hown := Lib.hid hown
  clear hff hown
  go_enter Tryz.func84, Tryz.ntmps84
  go_wp2
  go_quiet (fail)
  go_upto_if 67 with fail
  have h2047 := h2047'.out
  have he : (E == 2047) = false := by simpa using h2047
  have Hff2 : Hid (L = finT neg (mantF E M) (expF E) prec) := Lib.hid (by rw [Hff.out, if_neg h2047])
  go_upto_if 78 with fail
  go_cut [14, 15] (fun s14 s15 wx => s14 = .int .i64 (expF E + 1023) ∧ s15 = .int .u64 (mantF E M) ∧ ∃ n, wx = w.drewN n)
  case first =>
    clear Hff Hown h2047
    by_cases h0 : E = 0
    · subst h0
      go_wp2
      go_meet
      case rel => exact ⟨rfl, rfl, _, rfl⟩
    · have he0 : (E == 0) = false := by simpa using h0
      have e1 : expF E + 1023 = E := by unfold expF; rw [if_neg h0]; omega
      have e2 : mantF E M = bits .or .u64 M 4503599627370496 := if_neg h0
      have E1 := Lib.hid e1
      have E2 := Lib.hid e2
      clear e1 e2 h0
      go_wp2
      go_meet
      case rel => exact ⟨by rw [E1.out], by rw [E2.out], _, rfl⟩
  case rest =>
    obtain ⟨rfl, rfl, n0, rfl⟩ := hcut
    have hm := mantF_range E M hM0 hM1
    have he : -1022 ≤ expF E ∧ expF E ≤ 1024 := by unfold expF; split <;> omega
    clear Hff h2047 hE hM hn h86 hE0 hE1 hM0 hM1
    generalize expF E = e at *
    generalize mantF E M = m at *
    obtain ⟨hm0, hm1⟩ := hm
    obtain ⟨he0, he1⟩ := he
    have Ho2 : Hid ((w.drewN n0).ownsRow N 5 1 v 0 []) := Hown
    have Tn := T.drewN n0
    have hw2 : Below N w (w.drewN n0) := below_drewN (Below.refl _ _) _
    have Hbw := Lib.hid hw2
    have hB2 : B ≤ (w.drewN n0).heap.size := hB
    have hN2 : N ≤ (w.drewN n0).heap.size := hN
    clear Hown T hw2 hB hN
    generalize hww : w.drewN n0 = w2 at *
    clear hww
    go_upto_region 26 with fail
    rw [show e + 1023 + -1023 = e by omega]
    have hm00 := hm00'.out
    have hm2 : (m == 0) = false := by simpa using hm00
    have Hff3 : Hid (L = if prec < 0 then shortT neg m e else if fixN e prec ≤ 18 then fixT neg m e prec else slowT neg m e prec) := Lib.hid (by rw [Hff2.out, finT, if_neg hm00])
    have hbl := bitLen53 m (by omega) hm1
    clear Hff2
    have hp : ¬ prec < 0 := by have := hp'.out; omega
    have hL : Hid (L = if fixN e prec ≤ 18 then fixT neg m e prec else slowT neg m e prec) := Lib.hid (by rw [Hff3.out, if_neg hp])
    clear Hff3
    have hopt := Tn.opt
    have hnr : 64 - (Lib.bitLen m.toNat : Int) = nrm m := rfl
    have hsh : IntKind.u64.wrap (m * 2 ^ (nrm m).toNat) = shlM m := rfl
    have hfn : fixN e prec = if 0 ≤ e then 1 + (1 + e) * 78913 / 262144 + prec else 1 + prec - (-e) * 78913 / 262144 := rfl
    have Hfn := Lib.hid hfn
    clear hfn
    go_upto_block 2 with fail
    go_cut [3, 24] (fun s3 s24 wx => s3 = .int .i64 prec ∧ s24 = .int .i64 (fixN e prec) ∧ wx = w2)
    case first =>
      by_cases he00 : 0 ≤ e
      · have Hf1 : Hid (fixN e prec = 1 + (1 + e) * 78913 / 262144 + prec) := Lib.hid (by rw [Hfn.out, if_pos he00])
        clear Hfn
        go_wp2_with (go_at_call 94; refine (log10Pow2_c (1 + e) _ (by omega) (by omega)).mono ?_; rintro e w' ⟨rfl, rfl⟩)
        go_meet
        case rel => exact ⟨rfl, by rw [Hf1.out], rfl⟩
      · have Hf1 : Hid (fixN e prec = 1 + prec - (-e) * 78913 / 262144) := Lib.hid (by rw [Hfn.out, if_neg he00])
        clear Hfn
        go_wp2_with (go_at_call 94; refine (log10Pow2_c (-e) _ (by omega) (by omega)).mono ?_; rintro e w' ⟨rfl, rfl⟩)
        go_meet
        case rel => exact ⟨rfl, by rw [Hf1.out], rfl⟩
    case rest =>
      obtain ⟨rfl, rfl, rfl⟩ := hcut
      have hnb : -400 ≤ fixN e prec ∧ fixN e prec ≤ 400 := by rw [Hfn.out]; split <;> omega
      have hL2 : L = if fixN e prec ≤ 18 then (if fixN e prec ≤ 0 then fmtF neg [] 0 prec
        else if fixedD (shlM m) (e - nrm m - 52) (fixN e prec) prec = 0 then fmtF neg [] 0 prec
        else fmtF neg (stripZ (digs (fixedD (shlM m) (e - nrm m - 52) (fixN e prec) prec))) ((digs (fixedD (shlM m) (e - nrm m - 52) (fixN e prec) prec)).length + fixedP (shlM m) (e - nrm m - 52) (fixN e prec) prec) prec)
        else slowT neg m e prec := hL.out
      obtain ⟨hM0, hM1⟩ := shlM_range m
      have hs0 : 11 ≤ nrm m ∧ nrm m ≤ 63 := by unfold nrm; omega
      obtain ⟨hs0, hs1⟩ := hs0
      clear hL Hfn hopt
      generalize fixN e prec = n at *
      obtain ⟨hnb0, hnb1⟩ := hnb
      have h18 : ¬ n ≤ 18 := by have := h18'.out; omega
      rw [if_neg h18] at hL2
      obtain ⟨mn, rfl⟩ : ∃ mn : Nat, m = mn := ⟨m.toNat, by omega⟩
      obtain ⟨hg0, hg1, hg2⟩ := slow_facts mn (by omega) hm1
      have hkN : N ≤ wc.heap.size := hN2
      have hlt := Ho2.out.lt
      have hvk : v.ownBlock ≠ some wc.heap.size := fun h => by have := (hlt _ h).2; omega
      have Hvl : Hid (∀ j, v.ownBlock = some j → j < wc.heap.size) := Lib.hid (fun j h => (Ho2.out.lt j h).2)
      have Hdec := Lib.hid (newDec wc)
      have T3 := Tn.alloc hB2 (.cells Tryz.zeroCells176 176)
      have Ho3 : Hid ((wc.alloc (.cells Tryz.zeroCells176 176)).ownsRow N 5 1 v 0 []) := Lib.hid (Ho2.out.alloc _)
      have Hb3 : Hid (Below N w (wc.alloc (.cells Tryz.zeroCells176 176))) := Lib.hid (Hbw.out.trans ((Below.refl N wc).alloc hN2 _))
      have hk3 : wc.heap.size < (wc.alloc (.cells Tryz.zeroCells176 176)).heap.size := by rw [World.size_alloc]; omega
      have HL2 : Hid (L = fmtF neg (roundD (slow1 mn e) ((slow1 mn e).dp + prec)).D (roundD (slow1 mn e) ((slow1 mn e).dp + prec)).dp prec) := Lib.hid hL2
      have Hw3 := Lib.hid (show wc.alloc (.cells Tryz.zeroCells176 176) = wc.alloc (.cells Tryz.zeroCells176 176) from rfl)
      clear hL2 hlt hsh hnr hM0 hM1 hs0 hs1 Tn Ho2 Hbw
      go_upto_region 77 with fail
      generalize wc.alloc (.cells Tryz.zeroCells176 176) = w3 at *
      clear Hw3
      generalize wc.heap.size = k at *
      go_upto_region 78 with (go_at_call 96; refine (assign_c k mn _ 0 0 false _ Hdec.out (by omega) (by omega)).mono ?_; rintro e4 w4 ⟨rfl, hd4, hg4⟩)
      have hb4 := below_of_grown hg4 (by omega)
      have hs4 := hg4.size
      have D4 : Hid (DecIs w4 k (slow0 mn)) := Lib.hid (by
        obtain ⟨P', h1, h2⟩ := hd4
        rw [(good_dec mn (by omega) (by have := nDigits_20 mn (by omega); omega)).trim] at h1
        exact ⟨P', h1, h2⟩)
      have T4 := T3.below (hb4.mono (by omega))
      clear hd4 hg4
      have Hb4 := Lib.hid hb4
      clear hb4
      go_upto_region 84 with (go_at_call 97; refine (shift_c (B := B) k (e - 52) (slow0 mn) _ T4 (by omega) D4.out hg0 (by omega) (by omega) (by omega) (by omega)).mono ?_; rintro e5 w5 ⟨rfl, ⟨hd5, hg5, hq5, hr5⟩, ho5⟩)
      have D5 : Hid (DecIs w5 k (slow1 mn e)) := Lib.hid hd5
      have hdp5 := hd5.dpCell
      have G5 : Good (slow1 mn e).D := hg5
      have q5 : 3 * (slow1 mn e).dp ≤ 3 * (slow0 mn).dp + 2060 := hq5
      have q6 : 3 * (slow0 mn).dp - 2060 ≤ 3 * (slow1 mn e).dp := hr5
      have c5 : w5.cell? ⟨k, 801, none⟩ = some (.int .i64 (slow1 mn e).dp) := hdp5
      clear hd5 hg5 hq5 hr5 hdp5
      obtain ⟨g1, g2, g3⟩ := G5
      have Hg1 := Lib.hid g1
      have Hg2 := Lib.hid g2
      have gp : 1 ≤ (slow1 mn e).D.length := Good.pos ⟨g1, g2, g3⟩
      have Ho5 := Lib.hid ho5
      clear g1 g2 ho5
      generalize slow1 mn e = d5 at *
      go_upto_region 90 with (go_at_call 98; refine (decRound_c k (d5.dp + prec) d5 _ D5.out Hg2.out g3 (by omega) (by omega)).mono ?_; rintro e6 w6 ⟨rfl, hd6, ho6⟩)
      obtain ⟨r1, r2, r3⟩ := roundD_range d5 (d5.dp + prec) gp
      have c6 := hd6.nd
      have c7 := hd6.dpCell
      have Hr6 := Lib.hid (hd6.reads (by omega))
      clear hd6 Hg1
      generalize roundD d5 (d5.dp + prec) = d6 at *
      have e6 : w6.heap.size = w4.heap.size := by rw [ho6.2, Ho5.out.2]
      have Hb5 : Hid (Below k w3 w6) := Lib.hid (Hb4.out.trans ((below_of_grown Ho5.out.1 (by omega)).trans (below_of_grown ho6.1 (by have := Ho5.out.2; omega))))
      have Ho6 : Hid (w6.ownsRow N 5 1 v 0 []) := Lib.hid (own_below' Ho3.out Hvl.out Hb5.out)
      have hk6 : k < w6.heap.size := by omega
      have hN6 : N ≤ w6.heap.size := by omega
      have hC6 : Hid (∀ w7, w7.ownsRow N 5 1 v 0 [] → N ≤ w7.heap.size → k < w7.heap.size → ReadsB w7 k 0 d6.D → Calls Tryz.prog 89 #[v, .bool neg, .slice (some ⟨k, 0, none⟩) 800 800, .int .i64 d6.dp, .int .i64 d6.D.length, .int .i64 prec, .int .u8 102, .bool false] w7 (RetB N k (fmtF neg d6.D d6.dp prec) w7)) :=
        Lib.hid fun w7 o7 n7 k7 r7 => fmtEFG_c N k v [] d6.D neg false d6.dp prec (some ⟨k, 0, none⟩) 800 800 w7 ⟨o7, hvk⟩ n7 k7 (by simp) (by omega) (by omega) (by omega) (by omega) (by omega) (fun _ => rfl) (by omega) (by omega) r7
      have Hb6 : Hid (Below N w w6) := Lib.hid (Hb3.out.trans (Hb5.out.mono hkN))
      clear ho6 e6 Ho5 D5 Hg2 D4 Hdec
      go_region_with ((go_at_call 89; refine (hC6.out _ (by exact Ho6.out) (by exact hN6) (by exact hk6) (by exact Hr6.out)).mono ?_; rintro e8 w8 ⟨v8, rfl, ho8, hf8⟩))
      all_goals (go_wp2_with fail; go_ret; exact ⟨_, rfl, by rw [HL2.out]; exact ho8.1, Hb6.out.trans ((Below.refl N w6).drew.trans hf8.1)⟩)
end Go.Proofs.YtfbgnonnbcejkaaGreatDoor
namespace Go.Proofs.YtfbgnonnbcejkaaGreatDoor
open Go.RowKit

theorem ftoa64_c {B N : Nat} (b : Nat) (prec : Int) (v : Value) (w : World) (T : Tabs B w) (hB : B ≤ w.heap.size) (hb : b < 18446744073709551616) (hp0 : -1 ≤ prec) (hp1 : prec ≤ 20)
    (hown : w.ownsRow N 5 1 v 0 []) (hBN : B ≤ N) (hN : N ≤ w.heap.size) :
    Calls Tryz.prog 84 #[v, .float .f64 b, .int .u8 102, .int .i64 prec] w fun e w' => ∃ v', e = .returned v' ∧ w'.ownsRow N 5 1 v' (ffL b prec).length (Lib.byteCells (ffL b prec)) ∧ Below N w w' := by
  by_cases h1 : expB b = 2047
  · exact ftoaA b prec v w T hB hb hp0 hp1 hown hBN hN (Lib.hid h1)
  · by_cases h2 : mantF (expB b) (fracB b) = 0
    · exact ftoaZ b prec v w T hB hb hp0 hp1 hown hBN hN (Lib.hid h1) (Lib.hid h2)
    · by_cases h3 : prec < 0
      · exact ftoaS b prec v w T hB hb hp0 hp1 hown hBN hN (Lib.hid h1) (Lib.hid h2) (Lib.hid h3)
      · by_cases h4 : fixN (expF (expB b)) prec ≤ 18
        · by_cases h5 : fixN (expF (expB b)) prec ≤ 0
          · exact ftoaF b prec v w T hB hb hp0 hp1 hown hBN hN (Lib.hid h1) (Lib.hid h2) (Lib.hid (by omega)) (Lib.hid h4) (Lib.hid h5)
          · by_cases h6 : fixedD (shlM (mantF (expB b) (fracB b))) (expF (expB b) - nrm (mantF (expB b) (fracB b)) - 52) (fixN (expF (expB b)) prec) prec = 0
            · exact ftoaG b prec v w T hB hb hp0 hp1 hown hBN hN (Lib.hid h1) (Lib.hid h2) (Lib.hid (by omega)) (Lib.hid h4) (Lib.hid (by omega)) (Lib.hid h6)
            · exact ftoaH b prec v w T hB hb hp0 hp1 hown hBN hN (Lib.hid h1) (Lib.hid h2) (Lib.hid (by omega)) (Lib.hid h4) (Lib.hid (by omega)) (Lib.hid h6)
        · exact ftoaW b prec v w T hB hb hp0 hp1 hown hBN hN (Lib.hid h1) (Lib.hid h2) (Lib.hid (by omega)) (Lib.hid (by omega))
end Go.Proofs.YtfbgnonnbcejkaaGreatDoor
