/- Lemmas on the way to the law FnWKTParts, without conditions beside those that each states: strconv.FormatFloat at 'f' and 64 bits | writeEMPTY, writeCoord | writeFlatCoords0, writeFlatCoords1. -/
import Derived.Test.YtfbgnonnbcejkaaGreatDoorY25
import Derived.Laws.IdiomStrings
import Derived.Lib.BufferRead
import Derived.Test.YtfbgnonnbcejkaaGreatDoorY19
import Derived.Test.YtfbgnonnbcejkaaGreatDoorY09
import Derived.Test.YtfbgnonnbcejkaaGreatDoorY10
namespace Go.Proofs.YtfbgnonnbcejkaaGreatDoor
open Go.RowKit
open Go.Lib (byteCells)

/-- 'string(b)' of a row of the call's own. -/
theorem conv_own {w : World} {N : Nat} {v : Value} {l : List UInt8} (h : w.ownsRow N 5 1 v l.length (byteCells l)) :
    (convert 93 9 v).run Tryz.prog w = .ok (.string ⟨l.toArray⟩) w := by
  rcases h.2 with ⟨rfl, h0⟩ | ⟨g, cap, cur, rfl, hbg, hg, rest⟩
  · have : l = [] := List.length_eq_zero_iff.1 h0
    subst this
    exact Lib.run_convert_nil_bytes w 93 9 5 0 Tryz.underlying93 Tryz.underlying5 Tryz.underlying9
  · refine run_convert_bytes_back w 93 9 5 ⟨g, 0, none⟩ cap l Tryz.underlying93 Tryz.underlying5 Tryz.underlying9 (fun j hj => ?_)
    refine h.cells (g := g) rfl j _ ?_
    simp [byteCells, List.getElem?_map, List.getElem?_eq_getElem hj]

set_option maxHeartbeats 1600000 in
set_option maxRecDepth 100000 in
theorem ff82_c {B : Nat} (b : Nat) (prec : Int) (w : World) (T : Tabs B w) (hB : B ≤ w.heap.size) (hb : b < 18446744073709551616) (hp0 : -1 ≤ prec) (hp1 : prec ≤ 20) :
    Calls Tryz.prog 82 #[.float .f64 b, .int .u8 102, .int .i64 prec, .int .i64 64] w fun e w' => e = .returned (.string ⟨(ffL b prec).toArray⟩) ∧ Below w.heap.size w w' := by
  have hm : max (prec + 4) 24 = 24 := by omega
  obtain ⟨i0, hi, hz0, hz1, hz2⟩ := info_parts info5
  obtain ⟨w1, hmk, ho1, hg1⟩ := run_make_own (P := Tryz.prog) (w := w) w.heap.size 93 5 i0 (.int .u8 0) 1 Tryz.underlying93 hi hz0 hz1 .i64 .i64 24 (by rw [hz2]; decide) (by decide) (Nat.le_refl _)
  have hmk' : (Instr.makeSlice 93 (.int .i64 0) (.int .i64 24)).run Tryz.prog w = .ok (.slice (some ⟨w.heap.size, 0, none⟩) 0 24) w1 := hmk
  have hb1 : Below w.heap.size w w1 := ⟨hg1.os, hg1.tape, hg1.output, hg1.size, fun k hk => hg1.block k hk (by simp)⟩
  have hC := Lib.hid (ftoa64_c b prec _ w1 (T.below (hb1.mono hB)) (Nat.le_trans hB hb1.size) hb hp0 hp1 ho1 hB hb1.size)
  clear hi hz0 hz1 hz2 hmk ho1 hg1 T
  generalize ffL b prec = L at *
  go_enter Tryz.func82, Tryz.ntmps82
  go_wp2_with (go_at_call 84; refine hC.out.mono ?_; rintro e w2 ⟨v', rfl, ho, hb2⟩; have hcv := conv_own ho; clear ho)
  go_ret
  exact ⟨rfl, hb1.trans hb2⟩

set_option maxHeartbeats 800000 in
/-- strconv.FormatFloat. -/
theorem formatFloat_c {B : Nat} (b : Nat) (prec : Int) (w : World) (T : Tabs B w) (hB : B ≤ w.heap.size) (hb : b < 18446744073709551616) (hp0 : -1 ≤ prec) (hp1 : prec ≤ 20) :
    Calls Tryz.prog 79 #[.float .f64 b, .int .u8 102, .int .i64 prec, .int .i64 64] w fun e w' => e = .returned (.string ⟨(ffL b prec).toArray⟩) ∧ Below w.heap.size w w' := by
  have hC := Lib.hid (ff82_c b prec w T hB hb hp0 hp1)
  generalize ffL b prec = L at *
  go_enter Tryz.func79, Tryz.ntmps79
  go_wp2_with (go_at_call 82; refine hC.out.mono ?_; rintro e w2 ⟨rfl, hb2⟩)
  go_ret
  exact ⟨rfl, hb2⟩
end Go.Proofs.YtfbgnonnbcejkaaGreatDoor
namespace Go.Proofs.YtfbgnonnbcejkaaGreatDoor
open Go.RowKit

/-- The text of one number. -/
def numF (prec : Int) (b : Nat) : List UInt8 := if 0 < prec then trimR 46 (trimR 48 (ffL b prec)) else ffL b prec
/-- What every writing function leans on: the tables, the encoder at block en. -/
structure Ctx (B en : Nat) (prec : Int) (w : World) : Prop where
  tabs : Tabs B w
  enc : w.cell? ⟨en, 0, none⟩ = some (.int .i64 prec)
  enB : en < B
  size : B ≤ w.heap.size
  prec0 : -1 ≤ prec
  prec1 : prec ≤ 20
  len : ∀ b, b < 18446744073709551616 → (ffL b prec).length ≤ 1000000
theorem Ctx.below {B en : Nat} {prec : Int} {w w' : World} (c : Ctx B en prec w) (h : Below B w w') : Ctx B en prec w' :=
  ⟨c.tabs.below h, (keeps_of_below h).cell c.enB c.enc, c.enB, Nat.le_trans c.size h.size, c.prec0, c.prec1, c.len⟩

theorem writeEmpty_c (B b : Nat) (p : Value) (l : List UInt8) (w : World) (h : Sb B b l w) (hlen : l.length + 5 ≤ 140737488355328) (hBw : B ≤ w.heap.size) :
    Calls Tryz.prog 59 #[p, .pointer (some ⟨b, 0, none⟩)] w fun e w' => e = .returned .nilIface ∧ (Sb B b (l ++ EMP) w' ∧ Below B w w') := by
  have hC : Hid (∀ w', Sb B b l w' → B ≤ w'.heap.size → Calls Tryz.prog 57 #[.pointer (some ⟨b, 0, none⟩), .string ⟨#[69, 77, 80, 84, 89]⟩] w' fun e w'' => e = .returned (.tuple #[.int .i64 (5 : Nat), .nilIface]) ∧ (Sb B b (l ++ EMP) w'' ∧ Below B w' w'')) :=
    Lib.hid fun w' h1 h2 => writeString_c B b l EMP w' h1 hlen h2
  go_enter Tryz.func59, Tryz.ntmps59
  go_wp2_with (go_at_call 57; refine (hC.out _ h hBw).mono ?_; rintro e w2 ⟨rfl, h2, hb2⟩)
  go_ret
  exact ⟨rfl, h2, hb2⟩

set_option maxHeartbeats 3200000 in
theorem writeCoord_c (B en b : Nat) (prec : Int) (l : List UInt8) (v : Value) (xs : List Nat) (w : World) (c : Ctx B en prec w) (h : Sb B b l w) (hx : FloatsIn (· < B) w v xs)
    (hlen : l.length + (coordF (numF prec) true xs).length ≤ 140737488355000) :
    Calls Tryz.prog 76 #[.pointer (some ⟨en, 0, none⟩), .pointer (some ⟨b, 0, none⟩), v] w fun e w' => e = .returned .nilIface ∧ (Sb B b (l ++ coordF (numF prec) true xs) w' ∧ Below B w w') := by
  have hx' := hx
  obtain ⟨ao, cp, rfl, ⟨hc, hl⟩, hx⟩ := hx
  have Hx := Lib.hid hx
  have HC := Lib.hid c
  have Hl := Lib.hid hlen
  clear hx hx' hlen c
  go_enter Tryz.func76, Tryz.ntmps76
  go_wp2
  go_loopw [16] (fun i wr => ∃ (k : Nat) (l' : List UInt8), k ≤ xs.length ∧ i = .int .i64 k ∧ Sb B b l' wr ∧ l' ++ coordF (numF prec) (k == 0) (xs.drop k) = l ++ coordF (numF prec) true xs ∧ Below B w wr) (fun i _ => xs.length - (intOf i).toNat)
  case atStart => exact ⟨0, l, Nat.zero_le _, rfl, h, rfl, Below.refl _ _⟩
  case round =>
    obtain ⟨k, l', hk, rfl, hs, hr, hb⟩ := hrel
    have hcx := HC.out.below hb
    have hlr : l'.length + (coordF (numF prec) (k == 0) (xs.drop k)).length = l.length + (coordF (numF prec) true xs).length := by rw [← List.length_append, hr, List.length_append]
    by_cases hkl : k < xs.length
    · obtain ⟨bx, o, rfl, hbK, ha⟩ := Hx.out (by omega)
      have hcell := (keeps_of_below hb).cell hbK (ha k hkl).1
      have hx64 := (ha k hkl).2
      have hdrop : xs.drop k = xs.getD k 0 :: xs.drop (k + 1) := by
        rw [List.drop_eq_getElem_cons hkl, List.getD_eq_getElem?_getD, List.getElem?_eq_getElem hkl]; rfl
      generalize xs.getD k 0 = x at *
      rw [hdrop] at hr hlr
      simp only [coordF, List.length_append] at hr hlr
      have hdl : Hid (coordF (numF prec) false (xs.drop (k + 1)) = coordF (numF prec) (k + 1 == 0) (xs.drop (k + 1))) := Lib.hid (by rfl)
      have hF1 := hcx.len x hx64
      have hF : Hid (∀ w', Below B wr w' → Calls Tryz.prog 79 #[.float .f64 x, .int .u8 102, .int .i64 prec, .int .i64 64] w' fun e w'' => e = .returned (.string ⟨(ffL x prec).toArray⟩) ∧ Below w'.heap.size w' w'') :=
        Lib.hid fun w' hw' => formatFloat_c x prec w' (hcx.below hw').tabs (hcx.below hw').size hx64 hcx.prec0 hcx.prec1
      have hT : Hid (∀ (c : UInt8) (s : List UInt8) w', s.length ≤ 1000000 → Calls Tryz.prog 80 #[.string ⟨s.toArray⟩, .string ⟨#[c]⟩] w' fun e w'' => e = .returned (.string ⟨(trimR c s).toArray⟩) ∧ Below w'.heap.size w' w'') :=
        Lib.hid fun c s w' hs => (trimRight_c s c w' (by omega)).mono (by rintro e w'' ⟨rfl, n, rfl⟩; exact ⟨rfl, below_drewN (Below.refl _ _) n⟩)
      have hN : Hid (∀ l'' w', Sb B b l'' w' → B ≤ w'.heap.size → l''.length + (numF prec x).length ≤ 140737488355328 → Calls Tryz.prog 57 #[.pointer (some ⟨b, 0, none⟩), .string ⟨(numF prec x).toArray⟩] w' fun e w'' => e = .returned (.tuple #[.int .i64 (numF prec x).length, .nilIface]) ∧ (Sb B b (l'' ++ numF prec x) w'' ∧ Below B w' w'')) :=
        Lib.hid fun l'' w' h1 h2 h3 => writeString_c B b l'' _ w' h1 h3 h2
      have hW : Hid (∀ w', Sb B b l' w' → B ≤ w'.heap.size → Calls Tryz.prog 72 #[.pointer (some ⟨b, 0, none⟩), .int .i32 32] w' fun e w'' => e = .returned (.tuple #[.int .i64 1, .nilIface]) ∧ (Sb B b (l' ++ [32]) w'' ∧ Below B w' w'')) :=
        Lib.hid fun w' h1 h2 => writeRune_c B b l' 32 32 rfl (by decide) w' h1 (by have := Hl.out; omega) h2
      have Hcx := Lib.hid hcx
      have Hb := Lib.hid hb
      have Hr := Lib.hid hr
      have Hlr := Lib.hid hlr
      have hcd := hcx.enc
      clear hcx hb hr hlr ha hdrop hx64
      by_cases hk0 : k = 0
      · have hz0 : ((k : Int) != 0) = false := by simp [hk0]
        have Hk0 := Lib.hid hk0
        clear hk0
        have he : wr.cell? ⟨en, 0, none⟩ = some (.int .i64 prec) := (Hcx.out.below (Below.refl B wr)).enc
        go_wp2_with (go_at_call 79; refine (hF.out _ (Below.refl B wr)).mono ?_)
        rintro e w3 ⟨rfl, hb3⟩
        have hs3 := hs.below hb3
        have hb3' : Below B wr w3 := ((Below.refl B wr)).trans (hb3.mono (by have := ((Below.refl B wr)).size; have := Hcx.out.size; omega))
        have Hb3 := Lib.hid hb3'
        have Hs3 := Lib.hid hs3
        have he3 : w3.cell? ⟨en, 0, none⟩ = some (.int .i64 prec) := (Hcx.out.below hb3').enc
        clear hb3 hb3' hs3
        by_cases hp : 0 < prec
        · have hnf : Hid (numF prec x = trimR 46 (trimR 48 (ffL x prec))) := Lib.hid (if_pos hp)
          go_wp2_with (go_at_call 80; refine (hT.out 48 _ _ hF1).mono ?_)
          rintro e w4 ⟨rfl, hb4⟩
          go_wp2_with (go_at_call 80; refine (hT.out 46 _ _ (Nat.le_trans (trimR_le _ _) hF1)).mono ?_)
          rintro e w5 ⟨rfl, hb5⟩
          rw [← hnf.out]
          have hs5 := (Hs3.out.below hb4).below hb5
          have hb5' : Below B wr w5 := (Hb3.out.trans (hb4.mono (by have := Hb3.out.size; have := Hcx.out.size; omega))).trans (hb5.mono (by have := Hb3.out.size; have := Hcx.out.size; have := hb4.size; omega))
          clear hb4 hb5
          have hz5 : B ≤ w5.heap.size := by have := hb5'.size; have := Hcx.out.size; omega
          have Hb5 := Lib.hid hb5'
          have hn5 : Hid ((l').length + (numF prec x).length ≤ 140737488355328) := Lib.hid (by have := Hl.out; have := Hlr.out; simp [Hk0.out] at *; omega)
          clear hb5'
          go_wp2_with (go_at_call 57; refine (hN.out _ _ hs5 hz5 hn5.out).mono ?_)
          rintro e w6 ⟨rfl, hs6, hb6⟩
          have Hs6 := Lib.hid hs6
          have Hb6 := Lib.hid hb6
          clear hs6 hb6
          go_wp2
          go_roundw
          case rel => exact ⟨k + 1, _, by omega, by go_num, Hs6.out, by rw [← hdl.out, ← Hr.out]; simp [Hk0.out], Hb.out.trans (Hb5.out.trans Hb6.out)⟩
          case measure => simp [intOf]; omega
        · have hnf : Hid (numF prec x = ffL x prec) := Lib.hid (if_neg hp)
          rw [← hnf.out]
          have hz5 : B ≤ w3.heap.size := by have := Hb3.out.size; have := Hcx.out.size; omega
          have hn5 : Hid ((l').length + (numF prec x).length ≤ 140737488355328) := Lib.hid (by have := Hl.out; have := Hlr.out; simp [Hk0.out] at *; omega)
          have hs5 := Hs3.out
          go_wp2_with (go_at_call 57; refine (hN.out _ _ hs5 hz5 hn5.out).mono ?_)
          rintro e w6 ⟨rfl, hs6, hb6⟩
          have Hs6 := Lib.hid hs6
          have Hb6 := Lib.hid hb6
          clear hs6 hb6
          go_wp2
          go_roundw
          case rel => exact ⟨k + 1, _, by omega, by go_num, Hs6.out, by rw [← hdl.out, ← Hr.out]; simp [Hk0.out], Hb.out.trans (Hb3.out.trans Hb6.out)⟩
          case measure => simp [intOf]; omega
      · have hz0 : ((k : Int) != 0) = true := by simp [hk0]
        have Hk0 := Lib.hid hk0
        clear hk0
        go_wp2_with (go_at_call 72; refine (hW.out _ hs (by have := Hcx.out.size; omega)).mono ?_)
        rintro e w2 ⟨rfl, hs2, hb2⟩
        have he : w2.cell? ⟨en, 0, none⟩ = some (.int .i64 prec) := (Hcx.out.below hb2).enc
        go_wp2_with (go_at_call 79; refine (hF.out _ hb2).mono ?_)
        rintro e w3 ⟨rfl, hb3⟩
        have hs3 := hs2.below hb3
        have hb3' : Below B wr w3 := (hb2).trans (hb3.mono (by have := (hb2).size; have := Hcx.out.size; omega))
        have Hb3 := Lib.hid hb3'
        have Hs3 := Lib.hid hs3
        have he3 : w3.cell? ⟨en, 0, none⟩ = some (.int .i64 prec) := (Hcx.out.below hb3').enc
        clear hb3 hb3' hs3
        by_cases hp : 0 < prec
        · have hnf : Hid (numF prec x = trimR 46 (trimR 48 (ffL x prec))) := Lib.hid (if_pos hp)
          go_wp2_with (go_at_call 80; refine (hT.out 48 _ _ hF1).mono ?_)
          rintro e w4 ⟨rfl, hb4⟩
          go_wp2_with (go_at_call 80; refine (hT.out 46 _ _ (Nat.le_trans (trimR_le _ _) hF1)).mono ?_)
          rintro e w5 ⟨rfl, hb5⟩
          rw [← hnf.out]
          have hs5 := (Hs3.out.below hb4).below hb5
          have hb5' : Below B wr w5 := (Hb3.out.trans (hb4.mono (by have := Hb3.out.size; have := Hcx.out.size; omega))).trans (hb5.mono (by have := Hb3.out.size; have := Hcx.out.size; have := hb4.size; omega))
          clear hb4 hb5
          have hz5 : B ≤ w5.heap.size := by have := hb5'.size; have := Hcx.out.size; omega
          have Hb5 := Lib.hid hb5'
          have hn5 : Hid ((l' ++ [32]).length + (numF prec x).length ≤ 140737488355328) := Lib.hid (by have := Hl.out; have := Hlr.out; simp [Hk0.out] at *; omega)
          clear hb5'
          go_wp2_with (go_at_call 57; refine (hN.out _ _ hs5 hz5 hn5.out).mono ?_)
          rintro e w6 ⟨rfl, hs6, hb6⟩
          have Hs6 := Lib.hid hs6
          have Hb6 := Lib.hid hb6
          clear hs6 hb6
          go_wp2
          go_roundw
          case rel => exact ⟨k + 1, _, by omega, by go_num, Hs6.out, by rw [← hdl.out, ← Hr.out]; simp [Hk0.out], Hb.out.trans (Hb5.out.trans Hb6.out)⟩
          case measure => simp [intOf]; omega
        · have hnf : Hid (numF prec x = ffL x prec) := Lib.hid (if_neg hp)
          rw [← hnf.out]
          have hz5 : B ≤ w3.heap.size := by have := Hb3.out.size; have := Hcx.out.size; omega
          have hn5 : Hid ((l' ++ [32]).length + (numF prec x).length ≤ 140737488355328) := Lib.hid (by have := Hl.out; have := Hlr.out; simp [Hk0.out] at *; omega)
          have hs5 := Hs3.out
          go_wp2_with (go_at_call 57; refine (hN.out _ _ hs5 hz5 hn5.out).mono ?_)
          rintro e w6 ⟨rfl, hs6, hb6⟩
          have Hs6 := Lib.hid hs6
          have Hb6 := Lib.hid hb6
          clear hs6 hb6
          go_wp2
          go_roundw
          case rel => exact ⟨k + 1, _, by omega, by go_num, Hs6.out, by rw [← hdl.out, ← Hr.out]; simp [Hk0.out], Hb.out.trans (Hb3.out.trans Hb6.out)⟩
          case measure => simp [intOf]; omega
    · have hke : k = xs.length := by omega
      rw [hke, List.drop_length] at hr
      have hr' : l' = l ++ coordF (numF prec) true xs := by rw [← hr]; cases (xs.length == 0) <;> simp [coordF]
      subst hr'
      have Hb := Lib.hid hb
      have Hs := Lib.hid hs
      clear hr hlr hb hs hcx
      go_wp2
      go_ret
      exact ⟨rfl, Hs.out, Hb.out⟩
end Go.Proofs.YtfbgnonnbcejkaaGreatDoor
namespace Go.Proofs.YtfbgnonnbcejkaaGreatDoor
open Go.RowKit

theorem getD_sub (xs : List Nat) (i n j : Nat) (hj : j < n) : ((xs.drop i).take n).getD j 0 = xs.getD (i + j) 0 := by
  rw [List.getD_eq_getElem?_getD, List.getD_eq_getElem?_getD, List.getElem?_take_of_lt hj, List.getElem?_drop]
/-- A part of a row of numbers. -/
theorem floats_sub {S : Nat → Prop} {w : World} {b o c : Nat} {xs : List Nat} (hS : S b) (ha : ∀ j, j < xs.length → w.cell? ⟨b, o + j, none⟩ = some (.float .f64 (xs.getD j 0)) ∧ xs.getD j 0 < 18446744073709551616)
    (i n : Nat) (hi : i + n ≤ xs.length) (hl : xs.length ≤ 1048576) (hc : n ≤ c) : FloatsIn S w (.slice (some ⟨b, o + i, none⟩) n c) ((xs.drop i).take n) := by
  have hlen : ((xs.drop i).take n).length = n := by rw [List.length_take, List.length_drop]; omega
  unfold FloatsIn
  rw [hlen]
  refine ⟨_, c, rfl, ⟨hc, by omega⟩, fun _ => ⟨b, o + i, rfl, hS, fun j hj => ?_⟩⟩
  show w.cell? ⟨b, o + i + j, none⟩ = _ ∧ _
  rw [getD_sub xs i n j hj, Nat.add_assoc]
  exact ha (i + j) (by omega)

set_option maxHeartbeats 1600000 in
theorem writeFlat0_c (B en b : Nat) (prec : Int) (l : List UInt8) (v : Value) (xs : List Nat) (w : World) (c : Ctx B en prec w) (h : Sb B b l w) (hx : FloatsIn (· < B) w v xs) (h0 : 0 < xs.length)
    (hlen : l.length + (40 :: (coordF (numF prec) true xs ++ [41])).length ≤ 140737488355000) :
    Calls Tryz.prog 60 #[.pointer (some ⟨en, 0, none⟩), .pointer (some ⟨b, 0, none⟩), v, .int .i64 xs.length] w fun e w' => e = .returned .nilIface ∧ (Sb B b (l ++ 40 :: (coordF (numF prec) true xs ++ [41])) w' ∧ Below B w w') := by
  simp only [List.length_cons, List.length_append, List.length_nil] at hlen
  have hW1 : Hid (∀ w', Sb B b l w' → B ≤ w'.heap.size → Calls Tryz.prog 72 #[.pointer (some ⟨b, 0, none⟩), .int .i32 40] w' fun e w'' => e = .returned (.tuple #[.int .i64 1, .nilIface]) ∧ (Sb B b (l ++ [40]) w'' ∧ Below B w' w'')) :=
    Lib.hid fun w' h1 h2 => writeRune_c B b l 40 40 rfl (by decide) w' h1 (by omega) h2
  have hC : Hid (∀ w', Sb B b (l ++ [40]) w' → Below B w w' → Calls Tryz.prog 76 #[.pointer (some ⟨en, 0, none⟩), .pointer (some ⟨b, 0, none⟩), v] w' fun e w'' => e = .returned .nilIface ∧ (Sb B b ((l ++ [40]) ++ coordF (numF prec) true xs) w'' ∧ Below B w' w'')) :=
    Lib.hid fun w' h1 h2 => writeCoord_c B en b prec _ v xs w' (c.below h2) h1 (hx.keep (keeps_of_below h2)) (by simp; omega)
  have hW2 : Hid (∀ w', Sb B b ((l ++ [40]) ++ coordF (numF prec) true xs) w' → B ≤ w'.heap.size → Calls Tryz.prog 72 #[.pointer (some ⟨b, 0, none⟩), .int .i32 41] w' fun e w'' => e = .returned (.tuple #[.int .i64 1, .nilIface]) ∧ (Sb B b (((l ++ [40]) ++ coordF (numF prec) true xs) ++ [41]) w'' ∧ Below B w' w'')) :=
    Lib.hid fun w' h1 h2 => writeRune_c B b _ 41 41 rfl (by decide) w' h1 (by simp; omega) h2
  have hsz := c.size
  obtain ⟨ao, cp, rfl, ⟨hc, hl⟩, hx⟩ := hx
  obtain ⟨bx, o, rfl, hbK, ha⟩ := hx h0
  have he : l ++ 40 :: (coordF (numF prec) true xs ++ [41]) = (((l ++ [40]) ++ coordF (numF prec) true xs) ++ [41]) := by simp
  rw [he]
  generalize coordF (numF prec) true xs = C at *
  clear ha hx c he
  generalize xs.length = n at *
  go_enter Tryz.func60, Tryz.ntmps60
  go_wp2_with (go_at_call 72; refine (hW1.out _ h hsz).mono ?_)
  try simp only [and_imp]
  rintro e w2 rfl hs2 hb2
  have hsz2 : B ≤ w2.heap.size := by have := hb2.size; omega
  have Hs2 := Lib.hid hs2
  have Hb2 := Lib.hid hb2
  clear hs2 hb2
  go_wp2_with (go_at_call 76; refine (hC.out _ Hs2.out Hb2.out).mono ?_)
  try simp only [and_imp]
  rintro e w3 rfl hs3 hb3
  have hsz3 : B ≤ w3.heap.size := by have := hb3.size; omega
  have Hs3 := Lib.hid hs3
  have Hb3 := Lib.hid hb3
  clear hs3 hb3
  go_wp2_with (go_at_call 72; refine (hW2.out _ Hs3.out hsz3).mono ?_)
  try simp only [and_imp]
  rintro e w4 rfl hs4 hb4
  have Hs4 := Lib.hid hs4
  have Hb4 := Lib.hid hb4
  clear hs4 hb4
  go_wp2
  go_ret
  exact ⟨rfl, Hs4.out, Hb2.out.trans (Hb3.out.trans Hb4.out)⟩

set_option maxHeartbeats 3200000 in
theorem writeFlat1_c (B en b : Nat) (prec : Int) (l : List UInt8) (v : Value) (xs : List Nat) (st : Nat) (w : World) (c : Ctx B en prec w) (h : Sb B b l w) (hx : FloatsIn (· < B) w v xs) (hst : 0 < st) (hst1 : st ≤ 1099511627776) (hmod : xs.length % st = 0)
    (hlen : l.length + (flat1F (numF prec) st xs).length ≤ 140737488355000) :
    Calls Tryz.prog 62 #[.pointer (some ⟨en, 0, none⟩), .pointer (some ⟨b, 0, none⟩), v, .int .i64 st] w fun e w' => e = .returned .nilIface ∧ (Sb B b (l ++ flat1F (numF prec) st xs) w' ∧ Below B w w') := by
  have hsz := c.size
  have hW1 : Hid (∀ w', Sb B b l w' → B ≤ w'.heap.size → Calls Tryz.prog 72 #[.pointer (some ⟨b, 0, none⟩), .int .i32 40] w' fun e w'' => e = .returned (.tuple #[.int .i64 1, .nilIface]) ∧ (Sb B b (l ++ [40]) w'' ∧ Below B w' w'')) :=
    Lib.hid fun w' h1 h2 => writeRune_c B b l 40 40 rfl (by decide) w' h1 (by simp [flat1F] at hlen; omega) h2
  obtain ⟨ao, cp, rfl, ⟨hc, hl⟩, hx⟩ := hx
  have Hx := Lib.hid hx
  have HC := Lib.hid c
  have hfl : flat1F (numF prec) st xs = 40 :: (seqF true ((chunksF st xs.length xs).map (coordF (numF prec) true)) ++ [41]) := rfl
  generalize hT : seqF true ((chunksF st xs.length xs).map (coordF (numF prec) true)) = T at *
  rw [hfl] at hlen ⊢
  simp only [List.length_cons, List.length_append, List.length_nil] at hlen
  have he : l ++ 40 :: (T ++ [41]) = ((l ++ [40]) ++ T) ++ [41] := by simp
  rw [he]
  have Hl := Lib.hid hlen
  have HT := Lib.hid hT
  have Hmod := Lib.hid hmod
  clear hx c hfl hlen he hT hmod
  go_enter Tryz.func62, Tryz.ntmps62
  go_wp2_with (go_at_call 72; refine (hW1.out _ h hsz).mono ?_)
  try simp only [and_imp]
  rintro e w1 rfl hs1 hb1
  have Hs1 := Lib.hid hs1
  have Hb1 := Lib.hid hb1
  clear hs1 hb1
  go_wp2
  go_loopw [11] (fun i wr => ∃ (k fu : Nat) (l' : List UInt8), k ≤ xs.length ∧ i = .int .i64 k ∧ Sb B b l' wr ∧ (xs.length - k) % st = 0 ∧ xs.length - k ≤ fu ∧ l' ++ seqF (k == 0) ((chunksF st fu (xs.drop k)).map (coordF (numF prec) true)) = (l ++ [40]) ++ T ∧ Below B w wr) (fun i _ => xs.length - (intOf i).toNat)
  case atStart => exact ⟨0, xs.length, l ++ [40], Nat.zero_le _, rfl, Hs1.out, Hmod.out, Nat.le_refl _, by rw [← HT.out]; rfl, Hb1.out⟩
  case round =>
    obtain ⟨k, fu, l', hk, rfl, hs, hm, hfu, hr, hb⟩ := hrel
    have hcx := HC.out.below hb
    have hszr := hcx.size
    by_cases hkl : k < xs.length
    · obtain ⟨bx, o, rfl, hbK, ha⟩ := Hx.out (by omega)
      have hkst : k + st ≤ xs.length := by
        have h1 : st ≤ xs.length - k := by
          rcases Nat.lt_or_ge (xs.length - k) st with h2 | h2
          · rw [Nat.mod_eq_of_lt h2] at hm
            omega
          · exact h2
        omega
      have hm2 : (xs.length - (k + st)) % st = 0 := by
        rw [show xs.length - k = (xs.length - (k + st)) + st by omega, Nat.add_mod_right] at hm
        exact hm
      obtain ⟨fu', rfl⟩ : ∃ f, fu = f + 1 := ⟨fu - 1, by omega⟩
      have hdrop : chunksF st (fu' + 1) (xs.drop k) = (xs.drop k).take st :: chunksF st fu' (xs.drop (k + st)) := by
        rw [List.drop_eq_getElem_cons hkl, chunksF, ← List.drop_eq_getElem_cons hkl, List.drop_drop]
      rw [hdrop] at hr
      simp only [List.map_cons, seqF] at hr
      have hsub := floats_sub (S := (· < B)) (c := cp - k) hbK (fun j hj => ⟨(keeps_of_below hb).cell hbK (ha j hj).1, (ha j hj).2⟩) k st hkst hl (by omega)
      generalize hch : (xs.drop k).take st = ch at *
      have hlr : (l' ++ ((if (k == 0) = true then [] else [44, 32]) ++ (coordF (numF prec) true ch ++ seqF false ((chunksF st fu' (xs.drop (k + st))).map (coordF (numF prec) true))))).length = ((l ++ [40]) ++ T).length := by rw [hr]
      simp only [List.length_append, List.length_cons, List.length_nil] at hlr
      have hC : Hid (∀ l1 w', Sb B b l1 w' → Below B wr w' → l1.length ≤ l'.length + (if (k == 0) = true then ([] : List UInt8) else [44, 32]).length → Calls Tryz.prog 76 #[.pointer (some ⟨en, 0, none⟩), .pointer (some ⟨b, 0, none⟩), .slice (some ⟨bx, o + k, none⟩) st (cp - k)] w' fun e w'' => e = .returned .nilIface ∧ (Sb B b (l1 ++ coordF (numF prec) true ch) w'' ∧ Below B w' w'')) :=
        Lib.hid fun l1 w' h1 h2 h3 => writeCoord_c B en b prec _ _ ch w' (hcx.below h2) h1 (hsub.keep (keeps_of_below h2)) (by have := Hl.out; omega)
      have hW : Hid (∀ w', Sb B b l' w' → B ≤ w'.heap.size → Calls Tryz.prog 57 #[.pointer (some ⟨b, 0, none⟩), .string ⟨#[44, 32]⟩] w' fun e w'' => e = .returned (.tuple #[.int .i64 (2 : Nat), .nilIface]) ∧ (Sb B b (l' ++ [44, 32]) w'' ∧ Below B w' w'')) :=
        Lib.hid fun w' h1 h2 => writeString_c B b l' [44, 32] w' h1 (by have := Hl.out; simp; omega) h2
      have hf0 : (k + st == 0) = false := by rw [beq_eq_false_iff_ne]; omega
      have Hf0 := Lib.hid hf0
      have Hb := Lib.hid hb
      have Hr := Lib.hid hr
      have Hm2 := Lib.hid hm2
      have Hfu := Lib.hid hfu
      clear hcx hb hr hlr ha hdrop hsub hch hm hm2 hfu hf0
      by_cases hk0 : k = 0
      · have hz0 : ((k : Int) != 0) = false := by simp [hk0]
        have Hk0 := Lib.hid hk0
        clear hk0
        go_wp2_with (go_at_call 76; refine (hC.out _ _ hs (Below.refl _ _) (Nat.le_add_right _ _)).mono ?_)
        try simp only [and_imp]
        rintro e w3 rfl hs3 hb3
        have Hs3 := Lib.hid hs3
        have Hb3 := Lib.hid hb3
        clear hs3 hb3 hs
        go_wp2
        go_roundw
        case rel => exact ⟨k + st, fu', _, by omega, by go_num, Hs3.out, Hm2.out, by have := Hfu.out; omega, by rw [← Hr.out, Hf0.out]; simp [Hk0.out], Hb.out.trans Hb3.out⟩
        case measure => simp [intOf]; omega
      · have hz0 : ((k : Int) != 0) = true := by simp [hk0]
        have Hk0 := Lib.hid hk0
        clear hk0
        go_wp2_with (go_at_call 57; refine (hW.out _ hs hszr).mono ?_)
        try simp only [and_imp]
        rintro e w2 rfl hs2 hb2
        have Hs2 := Lib.hid hs2
        have Hb2 := Lib.hid hb2
        clear hs2 hb2 hs
        go_wp2_with (go_at_call 76; refine (hC.out _ _ Hs2.out Hb2.out (by simp [Hk0.out])).mono ?_)
        try simp only [and_imp]
        rintro e w3 rfl hs3 hb3
        have Hs3 := Lib.hid hs3
        have Hb3 := Lib.hid hb3
        clear hs3 hb3
        go_wp2
        go_roundw
        case rel => exact ⟨k + st, fu', _, by omega, by go_num, Hs3.out, Hm2.out, by have := Hfu.out; omega, by rw [← Hr.out, Hf0.out]; simp [Hk0.out], Hb.out.trans (Hb2.out.trans Hb3.out)⟩
        case measure => simp [intOf]; omega
    · have hke : k = xs.length := by omega
      rw [hke, List.drop_length] at hr
      have hr' : l' = (l ++ [40]) ++ T := by rw [← hr]; cases fu <;> simp [chunksF, seqF]
      subst hr'
      have Hb := Lib.hid hb
      have hW2 : Hid (∀ w', Sb B b ((l ++ [40]) ++ T) w' → B ≤ w'.heap.size → Calls Tryz.prog 72 #[.pointer (some ⟨b, 0, none⟩), .int .i32 41] w' fun e w'' => e = .returned (.tuple #[.int .i64 1, .nilIface]) ∧ (Sb B b (((l ++ [40]) ++ T) ++ [41]) w'' ∧ Below B w' w'')) :=
        Lib.hid fun w' h1 h2 => writeRune_c B b _ 41 41 rfl (by decide) w' h1 (by have := Hl.out; simp; omega) h2
      clear hr hb hcx
      go_wp2_with (go_at_call 72; refine (hW2.out _ hs hszr).mono ?_)
      try simp only [and_imp]
      rintro e w4 rfl hs4 hb4
      have Hs4 := Lib.hid hs4
      have Hb4 := Lib.hid hb4
      clear hs4 hb4
      go_wp2
      go_ret
      exact ⟨rfl, Hs4.out, Hb.out.trans Hb4.out⟩
end Go.Proofs.YtfbgnonnbcejkaaGreatDoor
