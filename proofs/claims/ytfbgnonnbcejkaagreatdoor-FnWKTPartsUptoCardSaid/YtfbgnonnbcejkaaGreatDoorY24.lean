/- Lemmas on the way to the law FnWKTParts, without conditions beside those that each states: ftoa64: the walk. -/
import Derived.Test.YtfbgnonnbcejkaaGreatDoorY23
import Derived.Deep.RegionWith
namespace Go.Proofs.YtfbgnonnbcejkaaGreatDoor
open Go.RowKit

theorem own_below' {w w' : World} {base : Nat} {e : TypeId} {size : Nat} {v : Value} {n : Nat} {xs : List Value} {K : Nat} (h : w.ownsRow base e size v n xs) (hK : ∀ j, v.ownBlock = some j → j < K) (hb : Below K w w') : w'.ownsRow base e size v n xs := by
  refine ⟨h.1, ?_⟩
  rcases h.2 with hn | ⟨g, cap, cur, rfl, hbg, hg, rest⟩
  · exact .inl hn
  · exact .inr ⟨g, cap, cur, rfl, hbg, (hb.block g (hK g rfl)).trans hg, rest⟩
theorem fmtCall (N k : Nat) (v : Value) (l : List UInt8) (neg : Bool) (p : Int) (w5 : World) (Ho5 : w5.ownsRow N 5 1 v 0 []) (hvk : v.ownBlock ≠ some k)
    (hN5 : N ≤ w5.heap.size) (hk5 : k < w5.heap.size) (hdl : l.length ≤ 20) (h1 : -350 ≤ p) (h2 : p ≤ 310) (Hr5 : ReadsB w5 k 0 l) :
    Calls Tryz.prog 89 #[v, .bool neg, .slice (some ⟨k, 0, none⟩) 32 32, .int .i64 (l.length + p), .int .i64 (stripLen l l.length : Nat), .int .i64 (max ((stripLen l l.length : Nat) - (l.length + p)) 0), .int .u8 102, .bool true] w5
      (RetB N k (fmtF neg (stripZ l) (l.length + p) (max ((stripZ l).length - (l.length + p)) 0)) w5) := by
  have hst2 := stripZ_le l
  have h := fmtEFG_c N k v [] (stripZ l) neg true (l.length + p) (max ((stripZ l).length - (l.length + p)) 0) (some ⟨k, 0, none⟩) 32 32 w5 ⟨Ho5, hvk⟩ hN5 hk5 (by simp) (by omega) (by omega) (by omega)
    (by omega) (by omega) (fun _ => rfl) (by omega) (by omega) (Hr5.take _)
  rw [← stripZ_length l]
  exact h
theorem fmtCallS (N k : Nat) (v : Value) (l : List UInt8) (neg : Bool) (p prec : Int) (w5 : World) (Ho5 : w5.ownsRow N 5 1 v 0 []) (hvk : v.ownBlock ≠ some k)
    (hN5 : N ≤ w5.heap.size) (hk5 : k < w5.heap.size) (hdl : l.length ≤ 20) (h1 : -400 ≤ p) (h2 : p ≤ 400) (h3 : 0 ≤ prec) (h4 : prec ≤ 20) (Hr5 : ReadsB w5 k 0 l) :
    Calls Tryz.prog 89 #[v, .bool neg, .slice (some ⟨k, 0, none⟩) 24 24, .int .i64 (l.length + p), .int .i64 (stripLen l l.length : Nat), .int .i64 prec, .int .u8 102, .bool false] w5
      (RetB N k (fmtF neg (stripZ l) (l.length + p) prec) w5) := by
  have hst2 := stripZ_le l
  have h := fmtEFG_c N k v [] (stripZ l) neg false (l.length + p) prec (some ⟨k, 0, none⟩) 24 24 w5 ⟨Ho5, hvk⟩ hN5 hk5 (by simp) (by omega) (by omega) (by omega)
    (by omega) (by omega) (fun _ => rfl) (by omega) (by omega) (Hr5.take _)
  rw [← stripZ_length l]
  exact h
theorem fmtCall0 (N k : Nat) (v : Value) (neg : Bool) (prec : Int) (w5 : World) (Ho5 : w5.ownsRow N 5 1 v 0 []) (hvk : v.ownBlock ≠ some k)
    (hN5 : N ≤ w5.heap.size) (hk5 : k < w5.heap.size) (h3 : 0 ≤ prec) (h4 : prec ≤ 20) :
    Calls Tryz.prog 89 #[v, .bool neg, .slice (some ⟨k, 0, none⟩) 24 24, .int .i64 0, .int .i64 0, .int .i64 prec, .int .u8 102, .bool false] w5
      (RetB N k (fmtF neg [] 0 prec) w5) :=
  fmtEFG_c N k v [] [] neg false 0 prec (some ⟨k, 0, none⟩) 24 24 w5 ⟨Ho5, hvk⟩ hN5 hk5 (by simp) (by simp) (by omega) (by omega)
    (by omega) (by omega) (fun _ => rfl) (by simp) (by omega) (ReadsB.nil _ _ _)
theorem below_of_grown {w w' : World} {k : Nat} (h : w.grownBy w' (some k)) (hk : k ≤ w.heap.size) : Below k w w' :=
  ⟨h.os, h.tape, h.output, h.size, fun j hj => h.block j (by omega) (fun e => by cases e; omega)⟩
theorem newDec (w : World) : DecM (w.alloc (.cells Tryz.zeroCells176 176)) w.heap.size (fun _ => .int .u8 0) 0 0 false := by
  refine ⟨_, heap_alloc_new _ _, by rw [zero176]; simp, fun j hj => ?_, ?_, ?_, ?_⟩
  · rw [zero176, Array.getElem?_append_left (by simpa using hj)]
    simp [hj]
  · rw [zero176, Array.getElem?_append_right (by simp)]; simp
  · rw [zero176, Array.getElem?_append_right (by simp)]; simp
  · rw [zero176, Array.getElem?_append_right (by simp)]; simp
theorem DecIs.dpCell {w : World} {a : Nat} {d : Dec} (h : DecIs w a d) : w.cell? ⟨a, 801, none⟩ = some (.int .i64 d.dp) := by
  obtain ⟨P, h1, _⟩ := h
  exact h1.cellDp
theorem DecIs.reads {w : World} {a : Nat} {d : Dec} (h : DecIs w a d) (hl : d.D.length ≤ 800) : ReadsB w a 0 d.D := by
  obtain ⟨P, h1, h2⟩ := h
  intro j hj
  rw [Nat.zero_add, h1.cell j (by omega), h2 j hj]
theorem Tabs.drewN {B : Nat} {w : World} (T : Tabs B w) (n : Nat) : Tabs B (w.drewN n) := T.below (below_drewN (Below.refl _ _) n)
end Go.Proofs.YtfbgnonnbcejkaaGreatDoor
namespace Go.Proofs.YtfbgnonnbcejkaaGreatDoor
open Go.RowKit

set_option maxHeartbeats 12800000 in
set_option maxRecDepth 100000 in
theorem ftoaA {B N : Nat} (b : Nat) (prec : Int) (v : Value) (w : World) (_T : Tabs B w) (_hB : B ≤ w.heap.size) (hb : b < 18446744073709551616) (_hp0 : -1 ≤ prec) (_hp1 : prec ≤ 20)
    (hown : w.ownsRow N 5 1 v 0 []) (_hBN : B ≤ N) (hN : N ≤ w.heap.size)
    (h2047' : Hid ((expB b) = 2047)) :
    Calls Tryz.prog 84 #[v, .float .f64 b, .int .u8 102, .int .i64 prec] w fun e w' => ∃ v', e = .returned v' ∧ w'.ownsRow N 5 1 v' (ffL b prec).length (Lib.byteCells (ffL b prec)) ∧ Below N w w' := by
  have h86 := run86 b
  have hE : bits .and .i64 ((b : Int) / 4503599627370496) 2047 = expB b := rfl
  have hM : bits .and .u64 (b : Int) 4503599627370495 = fracB b := rfl
  have hn : ((b : Int) / 9223372036854775808 != 0) = negB b := rfl
  obtain ⟨hE0, hE1⟩ := expB_range b
  obtain ⟨hM0, hM1⟩ := fracB_range b
  have hff : ffL b prec = if expB b = 2047 then (if fracB b ≠ 0 then [78, 97, 78] else if negB b then [45, 73, 110, 102] else [43, 73, 110, 102])
    else finT (negB b) (mantF (expB b) (fracB b)) (expF (expB b)) prec := rfl
  generalize expB b = E at *
  generalize fracB b = M at *
  generalize negB b = neg at *
  generalize ffL b prec = L at *
  have Hff := Lib.hid hff
  have Hown := Lib.hid hown
  clear hff hown
  go_enter Tryz.func84, Tryz.ntmps84
  go_wp2
  go_quiet (fail)
  go_upto_if 67 with fail
  have h2047 := h2047'.out
  have he : (E == 2047) = true := by simpa using h2047
  by_cases hM00 : M = 0
  · have hm0 : (M != 0) = false := by simpa using hM00
    cases neg
    · have hL : Hid (L = [43, 73, 110, 102]) := Lib.hid (by rw [Hff.out, if_pos h2047, if_neg (by simpa using hM00)]; rfl)
      clear hM00 h2047
      go_wp2_with (at_builtin; refine wp_appendS rfl _ _ rfl N v rfl Hown.out _ rfl (by decide) hN ?_; intro v' w1 ho1 hb1)
      go_ret
      exact ⟨_, rfl, by rw [hL.out]; exact ho1, (below_drewN (Below.refl N w) _).trans hb1⟩
    · have hL : Hid (L = [45, 73, 110, 102]) := Lib.hid (by rw [Hff.out, if_pos h2047, if_neg (by simpa using hM00)]; rfl)
      clear hM00 h2047
      go_wp2_with (at_builtin; refine wp_appendS rfl _ _ rfl N v rfl Hown.out _ rfl (by decide) hN ?_; intro v' w1 ho1 hb1)
      go_ret
      exact ⟨_, rfl, by rw [hL.out]; exact ho1, (below_drewN (Below.refl N w) _).trans hb1⟩
  · have hm0 : (M != 0) = true := by simpa using hM00
    have hL : Hid (L = [78, 97, 78]) := Lib.hid (by rw [Hff.out, if_pos h2047, if_pos (by simpa using hM00)])
    clear hM00 h2047
    go_wp2_with (at_builtin; refine wp_appendS rfl _ _ rfl N v rfl Hown.out _ rfl (by decide) hN ?_; intro v' w1 ho1 hb1)
    go_ret
    exact ⟨_, rfl, by rw [hL.out]; exact ho1, (below_drewN (Below.refl N w) _).trans hb1⟩
end Go.Proofs.YtfbgnonnbcejkaaGreatDoor
namespace Go.Proofs.YtfbgnonnbcejkaaGreatDoor
open Go.RowKit

set_option maxHeartbeats 12800000 in
set_option maxRecDepth 100000 in
theorem ftoaZ {B N : Nat} (b : Nat) (prec : Int) (v : Value) (w : World) (T : Tabs B w) (hB : B ≤ w.heap.size) (hb : b < 18446744073709551616) (hp0 : -1 ≤ prec) (hp1 : prec ≤ 20)
    (hown : w.ownsRow N 5 1 v 0 []) (hBN : B ≤ N) (hN : N ≤ w.heap.size)
    (h2047' : Hid ((expB b) ≠ 2047)) (hm00' : Hid ((mantF (expB b) (fracB b)) = 0)) :
    Calls Tryz.prog 84 #[v, .float .f64 b, .int .u8 102, .int .i64 prec] w fun e w' => ∃ v', e = .returned v' ∧ w'.ownsRow N 5 1 v' (ffL b prec).length (Lib.byteCells (ffL b prec)) ∧ Below N w w' := by
  have h86 := run86 b
  have hE : bits .and .i64 ((b : Int) / 4503599627370496) 2047 = expB b := rfl
  have hM : bits .and .u64 (b : Int) 4503599627370495 = fracB b := rfl
  have hn : ((b : Int) / 9223372036854775808 != 0) = negB b := rfl
  obtain ⟨hE0, hE1⟩ := expB_range b
  obtain ⟨hM0, hM1⟩ := fracB_range b
  have hff : ffL b prec = if expB b = 2047 then (if fracB b ≠ 0 then [78, 97, 78] else if negB b then [45, 73, 110, 102] else [43, 73, 110, 102])
    else finT (negB b) (mantF (expB b) (fracB b)) (expF (expB b)) prec := rfl
  generalize expB b = E at *
  generalize fracB b = M at *
  generalize negB b = neg at *
  generalize ffL b prec = L at *
  have Hff := Lib.hid hff
  have Hown := Lib.hid hown
  clear hff hown
  go_enter Tryz.func84, Tryz.ntmps84
  go_wp2
  go_quiet (fail)
  go_upto_if 67 with fail
  have h2047 := h2047'.out
  have he : (E == 2047) = false := by simpa using h2047
  have Hff2 : Hid (L = finT neg (mantF E M) (expF E) prec) := Lib.hid (by rw [Hff.out, if_neg h2047])
  go_upto_if 78 with fail
  go_cut [14, 15] (fun s14 s15 wx => s14 = .int .i64 (expF E + 1023) ∧ s15 = .int .u64 (mantF E M) ∧ ∃ n, wx = w.drewN n)
  case first =>
    clear Hff Hown h2047
    by_cases h0 : E = 0
    · subst h0
      go_wp2
      go_meet
      case rel => exact ⟨rfl, rfl, _, rfl⟩
    · have he0 : (E == 0) = false := by simpa using h0
      have e1 : expF E + 1023 = E := by unfold expF; rw [if_neg h0]; omega
      have e2 : mantF E M = bits .or .u64 M 4503599627370496 := if_neg h0
      have E1 := Lib.hid e1
      have E2 := Lib.hid e2
      clear e1 e2 h0
      go_wp2
      go_meet
      case rel => exact ⟨by rw [E1.out], by rw [E2.out], _, rfl⟩
  case rest =>
    obtain ⟨rfl, rfl, n0, rfl⟩ := hcut
    have hm := mantF_range E M hM0 hM1
    have he : -1022 ≤ expF E ∧ expF E ≤ 1024 := by unfold expF; split <;> omega
    clear Hff h2047 hE hM hn h86 hE0 hE1 hM0 hM1
    generalize expF E = e at *
    generalize mantF E M = m at *
    obtain ⟨hm0, hm1⟩ := hm
    obtain ⟨he0, he1⟩ := he
    have Ho2 : Hid ((w.drewN n0).ownsRow N 5 1 v 0 []) := Hown
    have Tn := T.drewN n0
    have hw2 : Below N w (w.drewN n0) := below_drewN (Below.refl _ _) _
    have Hbw := Lib.hid hw2
    have hB2 : B ≤ (w.drewN n0).heap.size := hB
    have hN2 : N ≤ (w.drewN n0).heap.size := hN
    clear Hown T hw2 hB hN
    generalize hww : w.drewN n0 = w2 at *
    clear hww
    go_upto_region 26 with fail
    rw [show e + 1023 + -1023 = e by omega]
    have hm00 := hm00'.out
    subst hm00
    have hL : Hid (L = fmtF neg [] 0 prec) := Lib.hid (by rw [Hff2.out]; rfl)
    go_wp2_with (go_at_call 89; refine (fmtEFG_c N 0 v [] [] neg (decide (prec < 0)) 0 prec none 0 0 _ ⟨Ho2.out, fun e => by have := Ho2.out.lt 0 e; have := Tn.low; omega⟩ (by omega) (by have := Tn.low; omega) (by simp) (by simp) (by omega) (by omega) (by omega) (by omega) (fun h => by simp at h) (by simp) (by omega) (ReadsB.nil _ _ _)).mono ?_; rintro e w' ⟨v', rfl, ho1, hf1⟩)
    go_ret
    exact ⟨_, rfl, by rw [hL.out]; exact ho1.1, Hbw.out.trans hf1.1⟩
end Go.Proofs.YtfbgnonnbcejkaaGreatDoor
namespace Go.Proofs.YtfbgnonnbcejkaaGreatDoor
open Go.RowKit

set_option maxHeartbeats 12800000 in
set_option maxRecDepth 100000 in
theorem ftoaS {B N : Nat} (b : Nat) (prec : Int) (v : Value) (w : World) (T : Tabs B w) (hB : B ≤ w.heap.size) (hb : b < 18446744073709551616) (_hp0 : -1 ≤ prec) (_hp1 : prec ≤ 20)
    (hown : w.ownsRow N 5 1 v 0 []) (_hBN : B ≤ N) (hN : N ≤ w.heap.size)
    (h2047' : Hid ((expB b) ≠ 2047)) (hm00' : Hid ((mantF (expB b) (fracB b)) ≠ 0)) (hp' : Hid (prec < 0)) :
    Calls Tryz.prog 84 #[v, .float .f64 b, .int .u8 102, .int .i64 prec] w fun e w' => ∃ v', e = .returned v' ∧ w'.ownsRow N 5 1 v' (ffL b prec).length (Lib.byteCells (ffL b prec)) ∧ Below N w w' := by
  have h86 := run86 b
  have hE : bits .and .i64 ((b : Int) / 4503599627370496) 2047 = expB b := rfl
  have hM : bits .and .u64 (b : Int) 4503599627370495 = fracB b := rfl
  have hn : ((b : Int) / 9223372036854775808 != 0) = negB b := rfl
  obtain ⟨hE0, hE1⟩ := expB_range b
  obtain ⟨hM0, hM1⟩ := fracB_range b
  have hff : ffL b prec = if expB b = 2047 then (if fracB b ≠ 0 then [78, 97, 78] else if negB b then [45, 73, 110, 102] else [43, 73, 110, 102])
    else finT (negB b) (mantF (expB b) (fracB b)) (expF (expB b)) prec := rfl
  generalize expB b = E at *
  generalize fracB b = M at *
  generalize negB b = neg at *
  generalize ffL b prec = L at *
  have Hff := Lib.hid hff
  have Hown := Lib.hid hown
  clear hff hown
  go_enter Tryz.func84, Tryz.ntmps84
  go_wp2
  go_quiet (fail)
  go_upto_if 67 with fail
  have h2047 := h2047'.out
  have he : (E == 2047) = false := by simpa using h2047
  have Hff2 : Hid (L = finT neg (mantF E M) (expF E) prec) := Lib.hid (by rw [Hff.out, if_neg h2047])
  go_upto_if 78 with fail
  go_cut [14, 15] (fun s14 s15 wx => s14 = .int .i64 (expF E + 1023) ∧ s15 = .int .u64 (mantF E M) ∧ ∃ n, wx = w.drewN n)
  case first =>
    clear Hff Hown h2047
    by_cases h0 : E = 0
    · subst h0
      go_wp2
      go_meet
      case rel => exact ⟨rfl, rfl, _, rfl⟩
    · have he0 : (E == 0) = false := by simpa using h0
      have e1 : expF E + 1023 = E := by unfold expF; rw [if_neg h0]; omega
      have e2 : mantF E M = bits .or .u64 M 4503599627370496 := if_neg h0
      have E1 := Lib.hid e1
      have E2 := Lib.hid e2
      clear e1 e2 h0
      go_wp2
      go_meet
      case rel => exact ⟨by rw [E1.out], by rw [E2.out], _, rfl⟩
  case rest =>
    obtain ⟨rfl, rfl, n0, rfl⟩ := hcut
    have hm := mantF_range E M hM0 hM1
    have he : -1022 ≤ expF E ∧ expF E ≤ 1024 := by unfold expF; split <;> omega
    clear Hff h2047 hE hM hn h86 hE0 hE1 hM0 hM1
    generalize expF E = e at *
    generalize mantF E M = m at *
    obtain ⟨hm0, hm1⟩ := hm
    obtain ⟨he0, he1⟩ := he
    have Ho2 : Hid ((w.drewN n0).ownsRow N 5 1 v 0 []) := Hown
    have Tn := T.drewN n0
    have hw2 : Below N w (w.drewN n0) := below_drewN (Below.refl _ _) _
    have Hbw := Lib.hid hw2
    have hB2 : B ≤ (w.drewN n0).heap.size := hB
    have hN2 : N ≤ (w.drewN n0).heap.size := hN
    clear Hown T hw2 hB hN
    generalize hww : w.drewN n0 = w2 at *
    clear hww
    go_upto_region 26 with fail
    rw [show e + 1023 + -1023 = e by omega]
    have hm00 := hm00'.out
    have hm2 : (m == 0) = false := by simpa using hm00
    have Hff3 : Hid (L = if prec < 0 then shortT neg m e else if fixN e prec ≤ 18 then fixT neg m e prec else slowT neg m e prec) := Lib.hid (by rw [Hff2.out, finT, if_neg hm00])
    have hbl := bitLen53 m (by omega) hm1
    clear Hff2
    have hp := hp'.out
    have hL : Hid (L = shortT neg m e) := Lib.hid (by rw [Hff3.out, if_pos hp])
    clear Hff3
    have hnr : 64 - (Lib.bitLen m.toNat : Int) = nrm m := rfl
    have hsh : IntKind.u64.wrap (m * 2 ^ (nrm m).toNat) = shlM m := rfl
    obtain ⟨hM0, hM1⟩ := shlM_range m
    have hL2 : L = fmtF neg (stripZ (digs (shortF (shlM m) (e - nrm m - 52)).1)) ((digs (shortF (shlM m) (e - nrm m - 52)).1).length + (shortF (shlM m) (e - nrm m - 52)).2)
      (max ((stripZ (digs (shortF (shlM m) (e - nrm m - 52)).1)).length - ((digs (shortF (shlM m) (e - nrm m - 52)).1).length + (shortF (shlM m) (e - nrm m - 52)).2)) 0) := hL.out
    have hs0 : 11 ≤ nrm m ∧ nrm m ≤ 63 := by unfold nrm; omega
    obtain ⟨hs0, hs1⟩ := hs0
    have hC := Lib.hid (fun w' (T' : Tabs B w') hB' => short_c (B := B) (shlM m) (e - nrm m - 52) w' T' hB' hM0 hM1 (by omega) (by omega))
    obtain ⟨hd0, hd1⟩ := shortF_range (shlM m) (e - nrm m - 52)
    obtain ⟨hpp0, hpp1⟩ := shortF_p (shlM m) (e - nrm m - 52) (by omega) (by omega)
    clear hL
    generalize nrm m = s at *
    generalize shlM m = M2 at *
    generalize (shortF M2 (e - s - 52)).1 = d at *
    generalize (shortF M2 (e - s - 52)).2 = p at *
    have hdn := digs_len d
    have hdl := digs_le d hd0 hd1
    have hstl : ((stripZ (digs d)).length : Int) = (stripLen (digs d) (digs d).length : Nat) := by rw [stripZ_length]
    have hst2 := stripZ_le (digs d)
    generalize hl : digs d = l at *
    have Hl := Lib.hid hl
    have HL2 := Lib.hid hL2
    clear hl hL2
    go_upto_region 38 with (first | (go_at_call 90; refine (len64_c m _ hm0 (by omega)).mono ?_; rintro e w' ⟨rfl, rfl⟩) | (go_at_call 99; refine (hC.out _ (Tn.alloc hB2 _) (by simp; omega)).mono ?_; rintro e1 w3 ⟨rfl, hb3⟩))
    have hbk : Below (w2.heap.size + 1) (w2.alloc (.cells (Array.replicate 32 (.int .u8 0)) 165)) w3 := by
      have := hb3
      rw [World.size_alloc] at this
      exact this
    clear hb3
    have hblk : w3.heap[w2.heap.size]? = some (.cells (Array.replicate 32 (.int .u8 0)) 165 (0, 0)) := (hbk.block _ (by omega)).trans (heap_alloc_new _ _)
    have Ho3 : Hid (w3.ownsRow N 5 1 v 0 []) := Lib.hid (own_below (Ho2.out.alloc _) (by rw [World.size_alloc]; omega) hbk)
    have T3 : Tabs B w3 := (Tn.alloc hB2 _).below (hbk.mono (by omega))
    have hk3 : w2.heap.size < w3.heap.size := by have := hbk.size; rw [World.size_alloc] at this; omega
    have hvk : v.ownBlock ≠ some w2.heap.size := fun h => by have := (Ho2.out.lt _ h).2; omega
    have hkN : N ≤ w2.heap.size := hN2
    have Hvl : Hid (∀ j, v.ownBlock = some j → j < w2.heap.size) := Lib.hid (fun j h => (Ho2.out.lt j h).2)
    have Hb3 : Hid (Below N w w3) := Lib.hid (Hbw.out.trans (((Below.refl N w2).alloc hN2 _).trans (hbk.mono (by omega))))
    clear hbk Ho2 Tn Hbw
    have Hblk := Lib.hid hblk
    clear hblk
    generalize w2.heap.size = k at *
    clear hsh hnr hC
    go_region_with ((first | (go_at_call 93; refine (numDigits_c (B := B) d _ (by first | exact T3 | exact T3.drewN _) hd0 hd1).mono ?_; rintro e4 w4 ⟨rfl, rfl⟩) | (go_at_call 92; refine (setDigits_c (t := 165) k 32 d p l _ hd0 hd1 (by omega) (by omega) Hl.out.symm (by omega) (by omega) (by exact Hblk.out)).mono ?_; rintro e5 w5 ⟨rfl, hr5, ho5⟩)))
    have Hr5 := Lib.hid hr5
    have Ho5 : Hid (w5.ownsRow N 5 1 v 0 []) := Lib.hid (own_below' (w := w3.drew) Ho3.out Hvl.out ho5.1)
    clear hr5
    go_upto_region 48 with fail
    have e5 : w5.heap.size = w3.heap.size := ho5.2
    have hk5 : k < w5.heap.size := by omega
    have hN5 : N ≤ w5.heap.size := by omega
    clear e5
    have hC6 := Lib.hid (fmtCall N k v l neg p w5 Ho5.out hvk hN5 hk5 hdl hpp0 hpp1 Hr5.out)
    clear hst2 hstl
    go_wp2_with (go_at_call 89; refine hC6.out.mono ?_; rintro e6 w6 ⟨v6, rfl, ho6, hf6⟩)
    go_ret
    exact ⟨_, rfl, by rw [HL2.out]; exact ho6.1, Hb3.out.trans (((Below.refl N w3).drew.trans (ho5.1.mono hkN)).trans hf6.1)⟩
end Go.Proofs.YtfbgnonnbcejkaaGreatDoor
namespace Go.Proofs.YtfbgnonnbcejkaaGreatDoor
open Go.RowKit

set_option maxHeartbeats 12800000 in
set_option maxRecDepth 100000 in
theorem ftoaF {B N : Nat} (b : Nat) (prec : Int) (v : Value) (w : World) (T : Tabs B w) (hB : B ≤ w.heap.size) (hb : b < 18446744073709551616) (hp0 : -1 ≤ prec) (hp1 : prec ≤ 20)
    (hown : w.ownsRow N 5 1 v 0 []) (_hBN : B ≤ N) (hN : N ≤ w.heap.size)
    (h2047' : Hid ((expB b) ≠ 2047)) (hm00' : Hid ((mantF (expB b) (fracB b)) ≠ 0)) (hp' : Hid (0 ≤ prec)) (h18' : Hid (fixN (expF (expB b)) prec ≤ 18)) (hn0' : Hid (fixN (expF (expB b)) prec ≤ 0)) :
    Calls Tryz.prog 84 #[v, .float .f64 b, .int .u8 102, .int .i64 prec] w fun e w' => ∃ v', e = .returned v' ∧ w'.ownsRow N 5 1 v' (ffL b prec).length (Lib.byteCells (ffL b prec)) ∧ Below N w w' := by
  have h86 := run86 b
  have hE : bits .and .i64 ((b : Int) / 4503599627370496) 2047 = expB b := rfl
  have hM : bits .and .u64 (b : Int) 4503599627370495 = fracB b := rfl
  have hn : ((b : Int) / 9223372036854775808 != 0) = negB b := rfl
  obtain ⟨hE0, hE1⟩ := expB_range b
  obtain ⟨hM0, hM1⟩ := fracB_range b
  have hff : ffL b prec = if expB b = 2047 then (if fracB b ≠ 0 then [78, 97, 78] else if negB b then [45, 73, 110, 102] else [43, 73, 110, 102])
    else finT (negB b) (mantF (expB b) (fracB b)) (expF (expB b)) prec := rfl
  generalize expB b = E at *
  generalize fracB b = M at *
  generalize negB b = neg at *
  generalize ffL b prec = L at *
  have Hff := Lib.hid hff
  have Hown := Lib.hid hown
  clear hff hown
  go_enter Tryz.func84, Tryz.ntmps84
  go_wp2
  go_quiet (fail)
  go_upto_if 67 with fail
  have h2047 := h2047'.out
  have he : (E == 2047) = false := by simpa using h2047
  have Hff2 : Hid (L = finT neg (mantF E M) (expF E) prec) := Lib.hid (by rw [Hff.out, if_neg h2047])
  go_upto_if 78 with fail
  go_cut [14, 15] (fun s14 s15 wx => s14 = .int .i64 (expF E + 1023) ∧ s15 = .int .u64 (mantF E M) ∧ ∃ n, wx = w.drewN n)
  case first =>
    clear Hff Hown h2047
    by_cases h0 : E = 0
    · subst h0
      go_wp2
      go_meet
      case rel => exact ⟨rfl, rfl, _, rfl⟩
    · have he0 : (E == 0) = false := by simpa using h0
      have e1 : expF E + 1023 = E := by unfold expF; rw [if_neg h0]; omega
      have e2 : mantF E M = bits .or .u64 M 4503599627370496 := if_neg h0
      have E1 := Lib.hid e1
      have E2 := Lib.hid e2
      clear e1 e2 h0
      go_wp2
      go_meet
      case rel => exact ⟨by rw [E1.out], by rw [E2.out], _, rfl⟩
  case rest =>
    obtain ⟨rfl, rfl, n0, rfl⟩ := hcut
    have hm := mantF_range E M hM0 hM1
    have he : -1022 ≤ expF E ∧ expF E ≤ 1024 := by unfold expF; split <;> omega
    clear Hff h2047 hE hM hn h86 hE0 hE1 hM0 hM1
    generalize expF E = e at *
    generalize mantF E M = m at *
    obtain ⟨hm0, hm1⟩ := hm
    obtain ⟨he0, he1⟩ := he
    have Ho2 : Hid ((w.drewN n0).ownsRow N 5 1 v 0 []) := Hown
    have Tn := T.drewN n0
    have hw2 : Below N w (w.drewN n0) := below_drewN (Below.refl _ _) _
    have Hbw := Lib.hid hw2
    have hB2 : B ≤ (w.drewN n0).heap.size := hB
    have hN2 : N ≤ (w.drewN n0).heap.size := hN
    clear Hown T hw2 hB hN
    generalize hww : w.drewN n0 = w2 at *
    clear hww
    go_upto_region 26 with fail
    rw [show e + 1023 + -1023 = e by omega]
    have hm00 := hm00'.out
    have hm2 : (m == 0) = false := by simpa using hm00
    have Hff3 : Hid (L = if prec < 0 then shortT neg m e else if fixN e prec ≤ 18 then fixT neg m e prec else slowT neg m e prec) := Lib.hid (by rw [Hff2.out, finT, if_neg hm00])
    have hbl := bitLen53 m (by omega) hm1
    clear Hff2
    have hp : ¬ prec < 0 := by have := hp'.out; omega
    have hL : Hid (L = if fixN e prec ≤ 18 then fixT neg m e prec else slowT neg m e prec) := Lib.hid (by rw [Hff3.out, if_neg hp])
    clear Hff3
    have hopt := Tn.opt
    have hnr : 64 - (Lib.bitLen m.toNat : Int) = nrm m := rfl
    have hsh : IntKind.u64.wrap (m * 2 ^ (nrm m).toNat) = shlM m := rfl
    have hfn : fixN e prec = if 0 ≤ e then 1 + (1 + e) * 78913 / 262144 + prec else 1 + prec - (-e) * 78913 / 262144 := rfl
    have Hfn := Lib.hid hfn
    clear hfn
    go_upto_block 2 with fail
    go_cut [3, 24] (fun s3 s24 wx => s3 = .int .i64 prec ∧ s24 = .int .i64 (fixN e prec) ∧ wx = w2)
    case first =>
      by_cases he00 : 0 ≤ e
      · have Hf1 : Hid (fixN e prec = 1 + (1 + e) * 78913 / 262144 + prec) := Lib.hid (by rw [Hfn.out, if_pos he00])
        clear Hfn
        go_wp2_with (go_at_call 94; refine (log10Pow2_c (1 + e) _ (by omega) (by omega)).mono ?_; rintro e w' ⟨rfl, rfl⟩)
        go_meet
        case rel => exact ⟨rfl, by rw [Hf1.out], rfl⟩
      · have Hf1 : Hid (fixN e prec = 1 + prec - (-e) * 78913 / 262144) := Lib.hid (by rw [Hfn.out, if_neg he00])
        clear Hfn
        go_wp2_with (go_at_call 94; refine (log10Pow2_c (-e) _ (by omega) (by omega)).mono ?_; rintro e w' ⟨rfl, rfl⟩)
        go_meet
        case rel => exact ⟨rfl, by rw [Hf1.out], rfl⟩
    case rest =>
      obtain ⟨rfl, rfl, rfl⟩ := hcut
      have hnb : -400 ≤ fixN e prec ∧ fixN e prec ≤ 400 := by rw [Hfn.out]; split <;> omega
      have hL2 : L = if fixN e prec ≤ 18 then (if fixN e prec ≤ 0 then fmtF neg [] 0 prec
        else if fixedD (shlM m) (e - nrm m - 52) (fixN e prec) prec = 0 then fmtF neg [] 0 prec
        else fmtF neg (stripZ (digs (fixedD (shlM m) (e - nrm m - 52) (fixN e prec) prec))) ((digs (fixedD (shlM m) (e - nrm m - 52) (fixN e prec) prec)).length + fixedP (shlM m) (e - nrm m - 52) (fixN e prec) prec) prec)
        else slowT neg m e prec := hL.out
      obtain ⟨hM0, hM1⟩ := shlM_range m
      have hs0 : 11 ≤ nrm m ∧ nrm m ≤ 63 := by unfold nrm; omega
      obtain ⟨hs0, hs1⟩ := hs0
      clear hL Hfn hopt
      generalize fixN e prec = n at *
      obtain ⟨hnb0, hnb1⟩ := hnb
      have h18 := h18'.out
      rw [if_pos h18] at hL2
      have hlt := Ho2.out.lt
      have hvk : v.ownBlock ≠ some wc.heap.size := fun h => by have := (hlt _ h).2; omega
      have hn0 := hn0'.out
      rw [if_pos hn0] at hL2
      have HL2 := Lib.hid hL2
      clear hL2 hsh hnr hlt
      have hC6 : Hid (∀ o, Calls Tryz.prog 89 #[v, .bool neg, .slice (some ⟨wc.heap.size, 0, none⟩) 24 24, .int .i64 0, .int .i64 0, .int .i64 prec, .int .u8 102, .bool false] (wc.alloc o) (RetB N wc.heap.size (fmtF neg [] 0 prec) (wc.alloc o))) :=
        Lib.hid fun o => fmtCall0 N wc.heap.size v neg prec (wc.alloc o) (Ho2.out.alloc _) hvk (by rw [World.size_alloc]; omega) (by rw [World.size_alloc]; omega) (by omega) hp1
      have hbo : ∀ o, Below N w (wc.alloc o) := fun o => Hbw.out.trans ((Below.refl N wc).alloc hN2 o)
      have Hbo := Lib.hid hbo
      clear hbo hvk
      go_wp2_with (go_at_call 89; refine (hC6.out _).mono ?_; rintro e6 w6 ⟨v6, rfl, ho6, hf6⟩)
      go_ret
      exact ⟨_, rfl, by rw [HL2.out]; exact ho6.1, (Hbo.out _).trans hf6.1⟩
end Go.Proofs.YtfbgnonnbcejkaaGreatDoor
