/- Lemmas on the way to the law FnWKTParts, without conditions beside those that each states: writeFlatCoords1Ends, writeFlatCoords2 | writeFlatCoords3. -/
import Derived.Test.YtfbgnonnbcejkaaGreatDoorY26
namespace Go.Proofs.YtfbgnonnbcejkaaGreatDoor
open Go.RowKit

set_option maxHeartbeats 6400000 in
theorem writeEnds_c (B en b : Nat) (prec : Int) (l : List UInt8) (v : Value) (xs : List Nat) (s t : Nat) (ve : Value) (ends : List Int) (st : Nat) (single : Bool) (w : World) (c : Ctx B en prec w) (h : Sb B b l w) (hx : FloatsIn (· < B) w v xs) (he : IntsIn (· < B) w ve ends)
    (hasc : Asc (st : Int) single s ends t) (ht : t ≤ xs.length) (hlen : l.length + (40 :: (seqF true (pieces1 (numF prec) xs s ends) ++ [41])).length ≤ 140737488355000) :
    Calls Tryz.prog 66 #[.pointer (some ⟨en, 0, none⟩), .pointer (some ⟨b, 0, none⟩), v, .int .i64 s, ve] w fun e w' => e = .returned .nilIface ∧ (Sb B b (l ++ 40 :: (seqF true (pieces1 (numF prec) xs s ends) ++ [41])) w' ∧ Below B w w') := by
  have hsz := c.size
  have hW1 : Hid (∀ w', Sb B b l w' → B ≤ w'.heap.size → Calls Tryz.prog 72 #[.pointer (some ⟨b, 0, none⟩), .int .i32 40] w' fun e w'' => e = .returned (.tuple #[.int .i64 1, .nilIface]) ∧ (Sb B b (l ++ [40]) w'' ∧ Below B w' w'')) :=
    Lib.hid fun w' h1 h2 => writeRune_c B b l 40 40 rfl (by decide) w' h1 (by simp at hlen; omega) h2
  obtain ⟨ao, cp, rfl, ⟨hc, hl⟩, hx⟩ := hx
  obtain ⟨ae, ce, rfl, ⟨hce, hle⟩, he⟩ := he
  have Hx := Lib.hid hx
  have He := Lib.hid he
  have HC := Lib.hid c
  generalize hT : seqF true (pieces1 (numF prec) xs s ends) = T at *
  simp only [List.length_cons, List.length_append, List.length_nil] at hlen
  have heq : l ++ 40 :: (T ++ [41]) = ((l ++ [40]) ++ T) ++ [41] := by simp
  rw [heq]
  have Hl := Lib.hid hlen
  have HT := Lib.hid hT
  have Hasc0 := Lib.hid hasc
  clear hx he c hlen heq hT hasc
  go_enter Tryz.func66, Tryz.ntmps66
  go_wp2_with (go_at_call 72; refine (hW1.out _ h hsz).mono ?_)
  try simp only [and_imp]
  rintro e w1 rfl hs1 hb1
  have Hs1 := Lib.hid hs1
  have Hb1 := Lib.hid hb1
  clear hs1 hb1
  go_wp2
  go_loopw [3, 31] (fun u i wr => ∃ (k sk : Nat) (l' : List UInt8), k ≤ ends.length ∧ i = .int .i64 k ∧ u = .int .i64 sk ∧ Sb B b l' wr ∧ Asc (st : Int) single sk (ends.drop k) t ∧ l' ++ seqF (k == 0) (pieces1 (numF prec) xs sk (ends.drop k)) = (l ++ [40]) ++ T ∧ Below B w wr) (fun _ i _ => ends.length - (intOf i).toNat)
  case atStart => exact ⟨0, s, l ++ [40], Nat.zero_le _, rfl, rfl, Hs1.out, Hasc0.out, by rw [← HT.out]; rfl, Hb1.out⟩
  case round =>
    obtain ⟨k, sk, l', hk, rfl, rfl, hs, ha, hr, hb⟩ := hrel
    have hcx := HC.out.below hb
    have hszr := hcx.size
    by_cases hkl : k < ends.length
    · obtain ⟨be, oe, rfl, hbE, hae⟩ := He.out (by omega)
      have hcell := (keeps_of_below hb).cell hbE (hae k hkl).1
      have hdrop : ends.drop k = ends.getD k 0 :: ends.drop (k + 1) := getD_drop ends k hkl
      rw [hdrop] at hr ha
      obtain ⟨⟨hsy, hmody, hsg⟩, hasc⟩ := ha
      have hyt := hasc.le.1
      generalize ends.getD k 0 = y at *
      obtain ⟨yn, rfl⟩ : ∃ yn : Nat, y = yn := ⟨y.toNat, by omega⟩
      have hsyn : sk ≤ yn := by omega
      have hynx : yn ≤ xs.length := by omega
      simp only [pieces1, seqF] at hr
      have hf0 : (k + 1 == 0) = false := by rw [beq_eq_false_iff_ne]; omega
      have Hf0 := Lib.hid hf0
      have Hasc := Lib.hid hasc
      have Hb := Lib.hid hb
      have hW : Hid (l'.length + 2 ≤ 140737488355000 → ∀ w', Sb B b l' w' → B ≤ w'.heap.size → Calls Tryz.prog 57 #[.pointer (some ⟨b, 0, none⟩), .string ⟨#[44, 32]⟩] w' fun e w'' => e = .returned (.tuple #[.int .i64 (2 : Nat), .nilIface]) ∧ (Sb B b (l' ++ [44, 32]) w'' ∧ Below B w' w'')) :=
        Lib.hid fun h0 w' h1 h2 => writeString_c B b l' [44, 32] w' h1 (by simp; omega) h2
      have hlr := congrArg List.length hr
      simp only [List.length_append, List.length_cons, List.length_nil] at hlr
      by_cases hle2 : yn ≤ sk
      · rw [if_pos (show (yn : Int) ≤ sk by omega)] at hr hlr
        have hE : Hid (∀ l1 w', Sb B b l1 w' → B ≤ w'.heap.size → l1.length ≤ l'.length + (if (k == 0) = true then ([] : List UInt8) else [44, 32]).length → Calls Tryz.prog 59 #[.pointer (some ⟨en, 0, none⟩), .pointer (some ⟨b, 0, none⟩)] w' fun e w'' => e = .returned .nilIface ∧ (Sb B b (l1 ++ EMP) w'' ∧ Below B w' w'')) :=
          Lib.hid fun l1 w' h1 h2 h3 => writeEmpty_c B b _ l1 w' h1 (by have := Hl.out; omega) h2
        have hlw : l'.length + 2 ≤ 140737488355000 := by have := Hl.out; have e5 : EMP.length = 5 := rfl; omega
        have hW := Lib.hid (hW.out hlw)
        have Hr := Lib.hid hr
        clear hcx hb hr hlr hae hdrop hasc hmody hsg hf0 hyt hlw
        by_cases hk0 : k = 0
        · have hz0 : ((k : Int) != 0) = false := by simp [hk0]
          have Hk0 := Lib.hid hk0
          clear hk0
          go_wp2_with (go_at_call 59; refine (hE.out _ _ hs hszr (Nat.le_add_right _ _)).mono ?_)
          try simp only [and_imp]
          rintro e w3 rfl hs3 hb3
          have Hs3 := Lib.hid hs3
          have Hb3 := Lib.hid hb3
          clear hs3 hb3
          go_wp2
          go_roundw
          case rel => exact ⟨k + 1, yn, _, by omega, by go_num, rfl, Hs3.out, Hasc.out, by rw [← Hr.out, Hf0.out]; simp [Hk0.out], Hb.out.trans (Hb3.out)⟩
          case measure => simp [intOf]; omega
        · have hz0 : ((k : Int) != 0) = true := by simp [hk0]
          have Hk0 := Lib.hid hk0
          clear hk0
          go_wp2_with (go_at_call 57; refine (hW.out _ hs hszr).mono ?_)
          try simp only [and_imp]
          rintro e w2 rfl hs2 hb2
          have Hs2 := Lib.hid hs2
          have Hb2 := Lib.hid hb2
          have hsz2 : B ≤ w2.heap.size := by have := hb2.size; omega
          clear hs2 hb2 hs
          go_wp2_with (go_at_call 59; refine (hE.out _ _ Hs2.out hsz2 (by simp [Hk0.out])).mono ?_)
          try simp only [and_imp]
          rintro e w3 rfl hs3 hb3
          have Hs3 := Lib.hid hs3
          have Hb3 := Lib.hid hb3
          clear hs3 hb3
          go_wp2
          go_roundw
          case rel => exact ⟨k + 1, yn, _, by omega, by go_num, rfl, Hs3.out, Hasc.out, by rw [← Hr.out, Hf0.out]; simp [Hk0.out], Hb.out.trans (Hb2.out.trans (Hb3.out))⟩
          case measure => simp [intOf]; omega
      · rw [if_neg (show ¬ (yn : Int) ≤ sk by omega)] at hr hlr
        obtain ⟨bx, o, rfl, hbK, hax⟩ := Hx.out (by omega)
        have hsub := floats_sub (S := (· < B)) (c := cp - sk) hbK (fun j hj => ⟨(keeps_of_below hb).cell hbK (hax j hj).1, (hax j hj).2⟩) sk (yn - sk) (by omega) hl (by omega)
        have hcut : cutF xs sk yn = (xs.drop sk).take (yn - sk) := by unfold cutF; congr 1; omega
        rw [hcut] at hr hlr
        skip
        generalize hch : (xs.drop sk).take (yn - sk) = ch at *
        have hC : Hid (∀ l1 w', Sb B b l1 w' → Below B wr w' → l1.length ≤ l'.length + (if (k == 0) = true then ([] : List UInt8) else [44, 32]).length → Calls Tryz.prog 76 #[.pointer (some ⟨en, 0, none⟩), .pointer (some ⟨b, 0, none⟩), .slice (some ⟨bx, o + sk, none⟩) (yn - sk) (cp - sk)] w' fun e w'' => e = .returned .nilIface ∧ (Sb B b (l1 ++ coordF (numF prec) true ch) w'' ∧ Below B w' w'')) :=
          Lib.hid fun l1 w' h1 h2 h3 => writeCoord_c B en b prec _ _ ch w' (hcx.below h2) h1 (hsub.keep (keeps_of_below h2)) (by have := Hl.out; omega)
        have hlw : (k == 0) = false → l'.length + 2 ≤ 140737488355000 := fun hz => by have := Hl.out; rw [hz] at hlr; simp at hlr; omega
        have Hlw := Lib.hid hlw
        have Hr := Lib.hid hr
        clear hcx hb hr hlr hax hae hdrop hasc hmody hsg hf0 hyt hlw hsub hch hcut
        by_cases hk0 : k = 0
        · have hz0 : ((k : Int) != 0) = false := by simp [hk0]
          have Hk0 := Lib.hid hk0
          clear hk0
          go_wp2_with (go_at_call 76; refine (hC.out _ _ hs (Below.refl _ _) (Nat.le_add_right _ _)).mono ?_)
          try simp only [and_imp]
          rintro e w3 rfl hs3 hb3
          have Hs3 := Lib.hid hs3
          have Hb3 := Lib.hid hb3
          clear hs3 hb3
          go_wp2
          go_roundw
          case rel => exact ⟨k + 1, yn, _, by omega, by go_num, rfl, Hs3.out, Hasc.out, by rw [← Hr.out, Hf0.out]; simp [Hk0.out], Hb.out.trans (Hb3.out)⟩
          case measure => simp [intOf]; omega
        · have hz0 : ((k : Int) != 0) = true := by simp [hk0]
          have Hk0 := Lib.hid hk0
          clear hk0
          go_wp2_with (go_at_call 57; refine (hW.out (Hlw.out (by simp [Hk0.out])) _ hs hszr).mono ?_)
          try simp only [and_imp]
          rintro e w2 rfl hs2 hb2
          have Hs2 := Lib.hid hs2
          have Hb2 := Lib.hid hb2
          have hsz2 : B ≤ w2.heap.size := by have := hb2.size; omega
          clear hs2 hb2 hs
          go_wp2_with (go_at_call 76; refine (hC.out _ _ Hs2.out Hb2.out (by simp [Hk0.out])).mono ?_)
          try simp only [and_imp]
          rintro e w3 rfl hs3 hb3
          have Hs3 := Lib.hid hs3
          have Hb3 := Lib.hid hb3
          clear hs3 hb3
          go_wp2
          go_roundw
          case rel => exact ⟨k + 1, yn, _, by omega, by go_num, rfl, Hs3.out, Hasc.out, by rw [← Hr.out, Hf0.out]; simp [Hk0.out], Hb.out.trans (Hb2.out.trans (Hb3.out))⟩
          case measure => simp [intOf]; omega
    · have hke : k = ends.length := by omega
      rw [hke, List.drop_length] at hr
      have hr' : l' = (l ++ [40]) ++ T := by rw [← hr]; simp [pieces1, seqF]
      subst hr'
      have Hb := Lib.hid hb
      have hW2 : Hid (∀ w', Sb B b ((l ++ [40]) ++ T) w' → B ≤ w'.heap.size → Calls Tryz.prog 72 #[.pointer (some ⟨b, 0, none⟩), .int .i32 41] w' fun e w'' => e = .returned (.tuple #[.int .i64 1, .nilIface]) ∧ (Sb B b (((l ++ [40]) ++ T) ++ [41]) w'' ∧ Below B w' w'')) :=
        Lib.hid fun w' h1 h2 => writeRune_c B b _ 41 41 rfl (by decide) w' h1 (by have := Hl.out; simp; omega) h2
      clear hr hb hcx ha
      go_wp2_with (go_at_call 72; refine (hW2.out _ hs hszr).mono ?_)
      try simp only [and_imp]
      rintro e w4 rfl hs4 hb4
      have Hs4 := Lib.hid hs4
      have Hb4 := Lib.hid hb4
      clear hs4 hb4
      go_wp2
      go_ret
      exact ⟨rfl, Hs4.out, Hb.out.trans Hb4.out⟩

set_option maxHeartbeats 6400000 in
theorem writeFlat2_c (B en b : Nat) (prec : Int) (l : List UInt8) (v : Value) (xs : List Nat) (s t : Nat) (ve : Value) (ends : List Int) (st : Nat) (single : Bool) (w : World) (c : Ctx B en prec w) (h : Sb B b l w) (hx : FloatsIn (· < B) w v xs) (he : IntsIn (· < B) w ve ends)
    (hst : 0 < st) (hst1 : st ≤ 1099511627776) (hasc : Asc (st : Int) single s ends t) (ht : t ≤ xs.length) (hlen : l.length + (40 :: (seqF true (pieces2 (numF prec) st xs s ends) ++ [41])).length ≤ 140737488355000) :
    Calls Tryz.prog 63 #[.pointer (some ⟨en, 0, none⟩), .pointer (some ⟨b, 0, none⟩), v, .int .i64 s, ve, .int .i64 st] w fun e w' => e = .returned .nilIface ∧ (Sb B b (l ++ 40 :: (seqF true (pieces2 (numF prec) st xs s ends) ++ [41])) w' ∧ Below B w w') := by
  have hsz := c.size
  have hW1 : Hid (∀ w', Sb B b l w' → B ≤ w'.heap.size → Calls Tryz.prog 72 #[.pointer (some ⟨b, 0, none⟩), .int .i32 40] w' fun e w'' => e = .returned (.tuple #[.int .i64 1, .nilIface]) ∧ (Sb B b (l ++ [40]) w'' ∧ Below B w' w'')) :=
    Lib.hid fun w' h1 h2 => writeRune_c B b l 40 40 rfl (by decide) w' h1 (by simp at hlen; omega) h2
  obtain ⟨ao, cp, rfl, ⟨hc, hl⟩, hx⟩ := hx
  obtain ⟨ae, ce, rfl, ⟨hce, hle⟩, he⟩ := he
  have Hx := Lib.hid hx
  have He := Lib.hid he
  have HC := Lib.hid c
  generalize hT : seqF true (pieces2 (numF prec) st xs s ends) = T at *
  simp only [List.length_cons, List.length_append, List.length_nil] at hlen
  have heq : l ++ 40 :: (T ++ [41]) = ((l ++ [40]) ++ T) ++ [41] := by simp
  rw [heq]
  have Hl := Lib.hid hlen
  have HT := Lib.hid hT
  have Hasc0 := Lib.hid hasc
  clear hx he c hlen heq hT hasc
  go_enter Tryz.func63, Tryz.ntmps63
  go_wp2_with (go_at_call 72; refine (hW1.out _ h hsz).mono ?_)
  try simp only [and_imp]
  rintro e w1 rfl hs1 hb1
  have Hs1 := Lib.hid hs1
  have Hb1 := Lib.hid hb1
  clear hs1 hb1
  go_wp2
  go_loopw [3, 33] (fun u i wr => ∃ (k sk : Nat) (l' : List UInt8), k ≤ ends.length ∧ i = .int .i64 k ∧ u = .int .i64 sk ∧ Sb B b l' wr ∧ Asc (st : Int) single sk (ends.drop k) t ∧ l' ++ seqF (k == 0) (pieces2 (numF prec) st xs sk (ends.drop k)) = (l ++ [40]) ++ T ∧ Below B w wr) (fun _ i _ => ends.length - (intOf i).toNat)
  case atStart => exact ⟨0, s, l ++ [40], Nat.zero_le _, rfl, rfl, Hs1.out, Hasc0.out, by rw [← HT.out]; rfl, Hb1.out⟩
  case round =>
    obtain ⟨k, sk, l', hk, rfl, rfl, hs, ha, hr, hb⟩ := hrel
    have hcx := HC.out.below hb
    have hszr := hcx.size
    by_cases hkl : k < ends.length
    · obtain ⟨be, oe, rfl, hbE, hae⟩ := He.out (by omega)
      have hcell := (keeps_of_below hb).cell hbE (hae k hkl).1
      have hdrop : ends.drop k = ends.getD k 0 :: ends.drop (k + 1) := getD_drop ends k hkl
      rw [hdrop] at hr ha
      obtain ⟨⟨hsy, hmody, hsg⟩, hasc⟩ := ha
      have hyt := hasc.le.1
      generalize ends.getD k 0 = y at *
      obtain ⟨yn, rfl⟩ : ∃ yn : Nat, y = yn := ⟨y.toNat, by omega⟩
      have hsyn : sk ≤ yn := by omega
      have hynx : yn ≤ xs.length := by omega
      simp only [pieces2, seqF] at hr
      have hf0 : (k + 1 == 0) = false := by rw [beq_eq_false_iff_ne]; omega
      have Hf0 := Lib.hid hf0
      have Hasc := Lib.hid hasc
      have Hb := Lib.hid hb
      have hW : Hid (l'.length + 2 ≤ 140737488355000 → ∀ w', Sb B b l' w' → B ≤ w'.heap.size → Calls Tryz.prog 57 #[.pointer (some ⟨b, 0, none⟩), .string ⟨#[44, 32]⟩] w' fun e w'' => e = .returned (.tuple #[.int .i64 (2 : Nat), .nilIface]) ∧ (Sb B b (l' ++ [44, 32]) w'' ∧ Below B w' w'')) :=
        Lib.hid fun h0 w' h1 h2 => writeString_c B b l' [44, 32] w' h1 (by simp; omega) h2
      have hlr := congrArg List.length hr
      simp only [List.length_append, List.length_cons, List.length_nil] at hlr
      by_cases hle2 : yn ≤ sk
      · rw [if_pos (show (yn : Int) ≤ sk by omega)] at hr hlr
        have hE : Hid (∀ l1 w', Sb B b l1 w' → B ≤ w'.heap.size → l1.length ≤ l'.length + (if (k == 0) = true then ([] : List UInt8) else [44, 32]).length → Calls Tryz.prog 59 #[.pointer (some ⟨en, 0, none⟩), .pointer (some ⟨b, 0, none⟩)] w' fun e w'' => e = .returned .nilIface ∧ (Sb B b (l1 ++ EMP) w'' ∧ Below B w' w'')) :=
          Lib.hid fun l1 w' h1 h2 h3 => writeEmpty_c B b _ l1 w' h1 (by have := Hl.out; omega) h2
        have hlw : l'.length + 2 ≤ 140737488355000 := by have := Hl.out; have e5 : EMP.length = 5 := rfl; omega
        have hW := Lib.hid (hW.out hlw)
        have Hr := Lib.hid hr
        clear hcx hb hr hlr hae hdrop hasc hmody hsg hf0 hyt hlw
        by_cases hk0 : k = 0
        · have hz0 : ((k : Int) != 0) = false := by simp [hk0]
          have Hk0 := Lib.hid hk0
          clear hk0
          go_wp2_with (go_at_call 59; refine (hE.out _ _ hs hszr (Nat.le_add_right _ _)).mono ?_)
          try simp only [and_imp]
          rintro e w3 rfl hs3 hb3
          have Hs3 := Lib.hid hs3
          have Hb3 := Lib.hid hb3
          clear hs3 hb3
          go_wp2
          go_roundw
          case rel => exact ⟨k + 1, yn, _, by omega, by go_num, rfl, Hs3.out, Hasc.out, by rw [← Hr.out, Hf0.out]; simp [Hk0.out], Hb.out.trans (Hb3.out)⟩
          case measure => simp [intOf]; omega
        · have hz0 : ((k : Int) != 0) = true := by simp [hk0]
          have Hk0 := Lib.hid hk0
          clear hk0
          go_wp2_with (go_at_call 57; refine (hW.out _ hs hszr).mono ?_)
          try simp only [and_imp]
          rintro e w2 rfl hs2 hb2
          have Hs2 := Lib.hid hs2
          have Hb2 := Lib.hid hb2
          have hsz2 : B ≤ w2.heap.size := by have := hb2.size; omega
          clear hs2 hb2 hs
          go_wp2_with (go_at_call 59; refine (hE.out _ _ Hs2.out hsz2 (by simp [Hk0.out])).mono ?_)
          try simp only [and_imp]
          rintro e w3 rfl hs3 hb3
          have Hs3 := Lib.hid hs3
          have Hb3 := Lib.hid hb3
          clear hs3 hb3
          go_wp2
          go_roundw
          case rel => exact ⟨k + 1, yn, _, by omega, by go_num, rfl, Hs3.out, Hasc.out, by rw [← Hr.out, Hf0.out]; simp [Hk0.out], Hb.out.trans (Hb2.out.trans (Hb3.out))⟩
          case measure => simp [intOf]; omega
      · rw [if_neg (show ¬ (yn : Int) ≤ sk by omega)] at hr hlr
        obtain ⟨bx, o, rfl, hbK, hax⟩ := Hx.out (by omega)
        have hsub := floats_sub (S := (· < B)) (c := cp - sk) hbK (fun j hj => ⟨(keeps_of_below hb).cell hbK (hax j hj).1, (hax j hj).2⟩) sk (yn - sk) (by omega) hl (by omega)
        have hcut : cutF xs sk yn = (xs.drop sk).take (yn - sk) := by unfold cutF; congr 1; omega
        rw [hcut] at hr hlr
        have hchm : ((xs.drop sk).take (yn - sk)).length % st = 0 := by rw [List.length_take, List.length_drop, show min (yn - sk) (xs.length - sk) = yn - sk by omega]; have h9 : (((yn - sk : Nat) : Int)) % (st : Int) = 0 := (by rw [show ((yn - sk : Nat) : Int) = (yn : Int) - sk by omega]; exact hmody); omega
        generalize hch : (xs.drop sk).take (yn - sk) = ch at *
        have hC : Hid (∀ l1 w', Sb B b l1 w' → Below B wr w' → l1.length ≤ l'.length + (if (k == 0) = true then ([] : List UInt8) else [44, 32]).length → Calls Tryz.prog 62 #[.pointer (some ⟨en, 0, none⟩), .pointer (some ⟨b, 0, none⟩), .slice (some ⟨bx, o + sk, none⟩) (yn - sk) (cp - sk), .int .i64 st] w' fun e w'' => e = .returned .nilIface ∧ (Sb B b (l1 ++ flat1F (numF prec) st ch) w'' ∧ Below B w' w'')) :=
          Lib.hid fun l1 w' h1 h2 h3 => writeFlat1_c B en b prec _ _ ch st w' (hcx.below h2) h1 (hsub.keep (keeps_of_below h2)) hst hst1 hchm (by have := Hl.out; omega)
        have hlw : (k == 0) = false → l'.length + 2 ≤ 140737488355000 := fun hz => by have := Hl.out; rw [hz] at hlr; simp at hlr; omega
        have Hlw := Lib.hid hlw
        have Hr := Lib.hid hr
        clear hcx hb hr hlr hax hae hdrop hasc hmody hsg hf0 hyt hlw hsub hch hcut hchm
        by_cases hk0 : k = 0
        · have hz0 : ((k : Int) != 0) = false := by simp [hk0]
          have Hk0 := Lib.hid hk0
          clear hk0
          go_wp2_with (go_at_call 62; refine (hC.out _ _ hs (Below.refl _ _) (Nat.le_add_right _ _)).mono ?_)
          try simp only [and_imp]
          rintro e w3 rfl hs3 hb3
          have Hs3 := Lib.hid hs3
          have Hb3 := Lib.hid hb3
          clear hs3 hb3
          go_wp2
          go_roundw
          case rel => exact ⟨k + 1, yn, _, by omega, by go_num, rfl, Hs3.out, Hasc.out, by rw [← Hr.out, Hf0.out]; simp [Hk0.out], Hb.out.trans (Hb3.out)⟩
          case measure => simp [intOf]; omega
        · have hz0 : ((k : Int) != 0) = true := by simp [hk0]
          have Hk0 := Lib.hid hk0
          clear hk0
          go_wp2_with (go_at_call 57; refine (hW.out (Hlw.out (by simp [Hk0.out])) _ hs hszr).mono ?_)
          try simp only [and_imp]
          rintro e w2 rfl hs2 hb2
          have Hs2 := Lib.hid hs2
          have Hb2 := Lib.hid hb2
          have hsz2 : B ≤ w2.heap.size := by have := hb2.size; omega
          clear hs2 hb2 hs
          go_wp2_with (go_at_call 62; refine (hC.out _ _ Hs2.out Hb2.out (by simp [Hk0.out])).mono ?_)
          try simp only [and_imp]
          rintro e w3 rfl hs3 hb3
          have Hs3 := Lib.hid hs3
          have Hb3 := Lib.hid hb3
          clear hs3 hb3
          go_wp2
          go_roundw
          case rel => exact ⟨k + 1, yn, _, by omega, by go_num, rfl, Hs3.out, Hasc.out, by rw [← Hr.out, Hf0.out]; simp [Hk0.out], Hb.out.trans (Hb2.out.trans (Hb3.out))⟩
          case measure => simp [intOf]; omega
    · have hke : k = ends.length := by omega
      rw [hke, List.drop_length] at hr
      have hr' : l' = (l ++ [40]) ++ T := by rw [← hr]; simp [pieces2, seqF]
      subst hr'
      have Hb := Lib.hid hb
      have hW2 : Hid (∀ w', Sb B b ((l ++ [40]) ++ T) w' → B ≤ w'.heap.size → Calls Tryz.prog 72 #[.pointer (some ⟨b, 0, none⟩), .int .i32 41] w' fun e w'' => e = .returned (.tuple #[.int .i64 1, .nilIface]) ∧ (Sb B b (((l ++ [40]) ++ T) ++ [41]) w'' ∧ Below B w' w'')) :=
        Lib.hid fun w' h1 h2 => writeRune_c B b _ 41 41 rfl (by decide) w' h1 (by have := Hl.out; simp; omega) h2
      clear hr hb hcx ha
      go_wp2_with (go_at_call 72; refine (hW2.out _ hs hszr).mono ?_)
      try simp only [and_imp]
      rintro e w4 rfl hs4 hb4
      have Hs4 := Lib.hid hs4
      have Hb4 := Lib.hid hb4
      clear hs4 hb4
      go_wp2
      go_ret
      exact ⟨rfl, Hs4.out, Hb.out.trans Hb4.out⟩
end Go.Proofs.YtfbgnonnbcejkaaGreatDoor
namespace Go.Proofs.YtfbgnonnbcejkaaGreatDoor
open Go.RowKit

theorem endss_drop (xs : List (List Int)) (i : Nat) (h : i < xs.length) : xs.drop i = xs.getD i [] :: xs.drop (i + 1) := by
  rw [List.drop_eq_getElem_cons h, List.getD_eq_getElem?_getD, List.getElem?_eq_getElem h]; rfl
theorem lastF_getD : ∀ (x : List Int) (s : Int), x ≠ [] → x.getD (x.length - 1) 0 = lastF s x
  | [], _, h => absurd rfl h
  | [a], s, _ => rfl
  | a :: c :: r, s, _ => by
    have := lastF_getD (c :: r) a (by simp)
    simp only [List.length_cons, lastF] at this ⊢
    rw [← this]
    simp

set_option maxHeartbeats 6400000 in
theorem writeFlat3_c (B en b : Nat) (prec : Int) (l : List UInt8) (v : Value) (xs : List Nat) (t : Nat) (ve : Value) (endss : List (List Int)) (st : Nat) (w : World) (c : Ctx B en prec w) (h : Sb B b l w) (hx : FloatsIn (· < B) w v xs) (he : IntssIn (· < B) w ve endss)
    (hst : 0 < st) (hst1 : st ≤ 1099511627776) (hasc : Ascs (st : Int) 0 endss t) (ht : t ≤ xs.length) (hlen : l.length + (40 :: (seqF true (pieces3 (numF prec) st xs 0 endss) ++ [41])).length ≤ 140737488355000) :
    Calls Tryz.prog 69 #[.pointer (some ⟨en, 0, none⟩), .pointer (some ⟨b, 0, none⟩), v, ve, .int .i64 st] w fun e w' => e = .returned .nilIface ∧ (Sb B b (l ++ 40 :: (seqF true (pieces3 (numF prec) st xs 0 endss) ++ [41])) w' ∧ Below B w w') := by
  have hsz := c.size
  have hW1 : Hid (∀ w', Sb B b l w' → B ≤ w'.heap.size → Calls Tryz.prog 72 #[.pointer (some ⟨b, 0, none⟩), .int .i32 40] w' fun e w'' => e = .returned (.tuple #[.int .i64 1, .nilIface]) ∧ (Sb B b (l ++ [40]) w'' ∧ Below B w' w'')) :=
    Lib.hid fun w' h1 h2 => writeRune_c B b l 40 40 rfl (by decide) w' h1 (by simp at hlen; omega) h2
  have Hx := Lib.hid hx
  obtain ⟨ao, cp, rfl, ⟨hc, hl⟩, hx'⟩ := hx
  obtain ⟨ae, ce, rfl, ⟨hce, hle⟩, he⟩ := he
  have He := Lib.hid he
  have HC := Lib.hid c
  generalize hT : seqF true (pieces3 (numF prec) st xs 0 endss) = T at *
  simp only [List.length_cons, List.length_append, List.length_nil] at hlen
  have heq : l ++ 40 :: (T ++ [41]) = ((l ++ [40]) ++ T) ++ [41] := by simp
  rw [heq]
  have Hl := Lib.hid hlen
  have HT := Lib.hid hT
  have Hasc0 := Lib.hid hasc
  clear hx' he c hlen heq hT hasc
  go_enter Tryz.func69, Tryz.ntmps69
  go_wp2_with (go_at_call 72; refine (hW1.out _ h hsz).mono ?_)
  try simp only [and_imp]
  rintro e w1 rfl hs1 hb1
  have Hs1 := Lib.hid hs1
  have Hb1 := Lib.hid hb1
  clear hs1 hb1
  go_wp2
  go_loopw [13, 32] (fun u i wr => ∃ (k sk : Nat) (l' : List UInt8), k ≤ endss.length ∧ i = .int .i64 k ∧ u = .int .i64 sk ∧ Sb B b l' wr ∧ Ascs (st : Int) sk (endss.drop k) t ∧ l' ++ seqF (k == 0) (pieces3 (numF prec) st xs sk (endss.drop k)) = (l ++ [40]) ++ T ∧ Below B w wr) (fun _ i _ => endss.length - (intOf i).toNat)
  case atStart => exact ⟨0, 0, l ++ [40], Nat.zero_le _, rfl, rfl, Hs1.out, Hasc0.out, by rw [← HT.out]; rfl, Hb1.out⟩
  case round =>
    obtain ⟨k, sk, l', hk, rfl, rfl, hs, ha, hr, hb⟩ := hrel
    have hcx := HC.out.below hb
    have hszr := hcx.size
    by_cases hkl : k < endss.length
    · obtain ⟨be, oe, rfl, hbE, hae⟩ := He.out (by omega)
      obtain ⟨u, hcell0, hux⟩ := hae k hkl
      have hcell := (keeps_of_below hb).cell hbE hcell0
      have hur := hux.keep (keeps_of_below hb)
      have hdrop : endss.drop k = endss.getD k [] :: endss.drop (k + 1) := endss_drop endss k hkl
      rw [hdrop] at hr ha
      generalize endss.getD k [] = x at *
      obtain ⟨ha1, hasc⟩ := ha
      have hyt := hasc.le
      have hsy := ha1.le.1
      generalize hy : lastF (sk : Int) x = y at *
      obtain ⟨yn, rfl⟩ : ∃ yn : Nat, y = yn := ⟨y.toNat, by omega⟩
      have hynx : yn ≤ xs.length := by omega
      simp only [pieces3, seqF, hy] at hr
      have hf0 : (k + 1 == 0) = false := by rw [beq_eq_false_iff_ne]; omega
      have Hf0 := Lib.hid hf0
      have Hasc := Lib.hid hasc
      have Hb := Lib.hid hb
      have hW : Hid (l'.length + 2 ≤ 140737488355000 → ∀ w', Sb B b l' w' → B ≤ w'.heap.size → Calls Tryz.prog 57 #[.pointer (some ⟨b, 0, none⟩), .string ⟨#[44, 32]⟩] w' fun e w'' => e = .returned (.tuple #[.int .i64 (2 : Nat), .nilIface]) ∧ (Sb B b (l' ++ [44, 32]) w'' ∧ Below B w' w'')) :=
        Lib.hid fun h0 w' h1 h2 => writeString_c B b l' [44, 32] w' h1 (by simp; omega) h2
      have hlr := congrArg List.length hr
      simp only [List.length_append, List.length_cons, List.length_nil] at hlr
      have hlw : (k == 0) = false → l'.length + 2 ≤ 140737488355000 := fun hz => by have := Hl.out; rw [hz] at hlr; simp at hlr; omega
      have Hlw := Lib.hid hlw
      obtain ⟨au, cu, rfl, ⟨hcu, hlu⟩, hua⟩ := hur
      by_cases hnil : x = []
      · subst hnil
        rw [if_pos rfl] at hr hlr
        have hsy2 : (sk : Int) = yn := hy
        obtain rfl : sk = yn := by omega
        have hE : Hid (∀ l1 w', Sb B b l1 w' → B ≤ w'.heap.size → l1.length ≤ l'.length + (if (k == 0) = true then ([] : List UInt8) else [44, 32]).length → Calls Tryz.prog 59 #[.pointer (some ⟨en, 0, none⟩), .pointer (some ⟨b, 0, none⟩)] w' fun e w'' => e = .returned .nilIface ∧ (Sb B b (l1 ++ EMP) w'' ∧ Below B w' w'')) :=
          Lib.hid fun l1 w' h1 h2 h3 => writeEmpty_c B b _ l1 w' h1 (by have := Hl.out; have e5 : EMP.length = 5 := rfl; omega) h2
        have Hr := Lib.hid hr
        clear hcx hb hr hlr hae hdrop hasc hsy hf0 hyt hlw hua ha1 hux hcell0 hy hsy2
        by_cases hk0 : k = 0
        · have hz0 : ((k : Int) != 0) = false := by simp [hk0]
          have Hk0 := Lib.hid hk0
          clear hk0
          go_wp2_with (go_at_call 59; refine (hE.out _ _ hs hszr (Nat.le_add_right _ _)).mono ?_)
          try simp only [and_imp]
          rintro e w3 rfl hs3 hb3
          have Hs3 := Lib.hid hs3
          have Hb3 := Lib.hid hb3
          clear hs3 hb3
          go_wp2
          go_roundw
          case rel => exact ⟨k + 1, sk, _, by omega, by go_num, rfl, Hs3.out, Hasc.out, by rw [← Hr.out, Hf0.out]; simp [Hk0.out], Hb.out.trans Hb3.out⟩
          case measure => simp [intOf]; omega
        · have hz0 : ((k : Int) != 0) = true := by simp [hk0]
          have Hk0 := Lib.hid hk0
          clear hk0
          go_wp2_with (go_at_call 57; refine (hW.out (Hlw.out (by simp [Hk0.out])) _ hs hszr).mono ?_)
          try simp only [and_imp]
          rintro e w2 rfl hs2 hb2
          have Hs2 := Lib.hid hs2
          have Hb2 := Lib.hid hb2
          have hsz2 : B ≤ w2.heap.size := by have := hb2.size; omega
          clear hs2 hb2 hs
          go_wp2_with (go_at_call 59; refine (hE.out _ _ Hs2.out hsz2 (by simp [Hk0.out])).mono ?_)
          try simp only [and_imp]
          rintro e w3 rfl hs3 hb3
          have Hs3 := Lib.hid hs3
          have Hb3 := Lib.hid hb3
          clear hs3 hb3
          go_wp2
          go_roundw
          case rel => exact ⟨k + 1, sk, _, by omega, by go_num, rfl, Hs3.out, Hasc.out, by rw [← Hr.out, Hf0.out]; simp [Hk0.out], Hb.out.trans (Hb2.out.trans Hb3.out)⟩
          case measure => simp [intOf]; omega
      · rw [if_neg hnil] at hr hlr
        have hxl : 0 < x.length := List.length_pos_iff.2 hnil
        obtain ⟨bu, ou, rfl, hbU, hau⟩ := hua hxl
        have hLast : Hid (∀ w', Below B wr w' → w'.cell? ⟨bu, ou + (x.length - 1), none⟩ = some (.int .i64 yn)) := Lib.hid fun w' hw' => by
          have := (hau (x.length - 1) (by omega)).1
          rw [lastF_getD x sk hnil, hy] at this
          exact (keeps_of_below hw').cell hbU this
        have hur2 : IntsIn (· < B) wr (.slice (some ⟨bu, ou, none⟩) x.length cu) x := hux.keep (keeps_of_below hb)
        have hC : Hid (∀ l1 w', Sb B b l1 w' → Below B wr w' → l1.length ≤ l'.length + (if (k == 0) = true then ([] : List UInt8) else [44, 32]).length → Calls Tryz.prog 63 #[.pointer (some ⟨en, 0, none⟩), .pointer (some ⟨b, 0, none⟩), .slice ao xs.length cp, .int .i64 sk, .slice (some ⟨bu, ou, none⟩) x.length cu, .int .i64 st] w' fun e w'' => e = .returned .nilIface ∧ (Sb B b (l1 ++ flat2F (numF prec) st xs sk x) w'' ∧ Below B w' w'')) :=
          Lib.hid fun l1 w' h1 h2 h3 => writeFlat2_c B en b prec _ _ xs sk yn _ x st false w' (hcx.below h2) h1 ((Hx.out.keep (keeps_of_below hb)).keep (keeps_of_below h2)) (hur2.keep (keeps_of_below h2)) hst hst1 ha1 hynx (by have := Hl.out; unfold flat2F at hlr; omega)
        have Hr := Lib.hid hr
        clear hcx hb hr hlr hae hdrop hasc hsy hf0 hyt hlw hua ha1 hux hcell0 hy hau hnil hur2
        by_cases hk0 : k = 0
        · have hz0 : ((k : Int) != 0) = false := by simp [hk0]
          have Hk0 := Lib.hid hk0
          clear hk0
          go_wp2_with (go_at_call 63; refine (hC.out _ _ hs (Below.refl _ _) (Nat.le_add_right _ _)).mono ?_)
          try simp only [and_imp]
          rintro e w3 rfl hs3 hb3
          have Hs3 := Lib.hid hs3
          have Hb3 := Lib.hid hb3
          clear hs3 hb3
          have hcl := (hLast.out _ Hb3.out)
          go_wp2
          go_roundw
          case rel => exact ⟨k + 1, yn, _, by omega, by go_num, rfl, Hs3.out, Hasc.out, by rw [← Hr.out, Hf0.out]; simp [Hk0.out], Hb.out.trans Hb3.out⟩
          case measure => simp [intOf]; omega
        · have hz0 : ((k : Int) != 0) = true := by simp [hk0]
          have Hk0 := Lib.hid hk0
          clear hk0
          go_wp2_with (go_at_call 57; refine (hW.out (Hlw.out (by simp [Hk0.out])) _ hs hszr).mono ?_)
          try simp only [and_imp]
          rintro e w2 rfl hs2 hb2
          have Hs2 := Lib.hid hs2
          have Hb2 := Lib.hid hb2
          have hsz2 : B ≤ w2.heap.size := by have := hb2.size; omega
          clear hs2 hb2 hs
          go_wp2_with (go_at_call 63; refine (hC.out _ _ Hs2.out Hb2.out (by simp [Hk0.out])).mono ?_)
          try simp only [and_imp]
          rintro e w3 rfl hs3 hb3
          have Hs3 := Lib.hid hs3
          have Hb3 := Lib.hid hb3
          clear hs3 hb3
          have hcl := (hLast.out _ (Hb2.out.trans Hb3.out))
          go_wp2
          go_roundw
          case rel => exact ⟨k + 1, yn, _, by omega, by go_num, rfl, Hs3.out, Hasc.out, by rw [← Hr.out, Hf0.out]; simp [Hk0.out], Hb.out.trans (Hb2.out.trans Hb3.out)⟩
          case measure => simp [intOf]; omega
    · have hke : k = endss.length := by omega
      rw [hke, List.drop_length] at hr
      have hr' : l' = (l ++ [40]) ++ T := by rw [← hr]; simp [pieces3, seqF]
      subst hr'
      have Hb := Lib.hid hb
      have hW2 : Hid (∀ w', Sb B b ((l ++ [40]) ++ T) w' → B ≤ w'.heap.size → Calls Tryz.prog 72 #[.pointer (some ⟨b, 0, none⟩), .int .i32 41] w' fun e w'' => e = .returned (.tuple #[.int .i64 1, .nilIface]) ∧ (Sb B b (((l ++ [40]) ++ T) ++ [41]) w'' ∧ Below B w' w'')) :=
        Lib.hid fun w' h1 h2 => writeRune_c B b _ 41 41 rfl (by decide) w' h1 (by have := Hl.out; simp; omega) h2
      clear hr hb hcx ha
      go_wp2_with (go_at_call 72; refine (hW2.out _ hs hszr).mono ?_)
      try simp only [and_imp]
      rintro e w4 rfl hs4 hb4
      have Hs4 := Lib.hid hs4
      have Hb4 := Lib.hid hb4
      clear hs4 hb4
      go_wp2
      go_ret
      exact ⟨rfl, Hs4.out, Hb.out.trans Hb4.out⟩
end Go.Proofs.YtfbgnonnbcejkaaGreatDoor
