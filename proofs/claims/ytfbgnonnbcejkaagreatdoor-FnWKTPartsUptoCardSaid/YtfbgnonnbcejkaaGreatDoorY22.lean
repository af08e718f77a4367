/- Lemmas on the way to the law FnWKTParts, without conditions beside those that each states: fmtEFG at 'f': the sign, the whole part, the fraction. -/
import Derived.Test.YtfbgnonnbcejkaaGreatDoorY12
import Derived.Deep.DeepCutAuto
import Derived.Deep.CutBlock
namespace Go.Proofs.YtfbgnonnbcejkaaGreatDoor
open Go.RowKit

/-- The sign. -/
def signT (neg : Bool) : List UInt8 := if neg then [45] else []
/-- The whole part: the digits ahead of the point, and zeros. -/
def wholeT (l : List UInt8) (dp : Int) : List UInt8 := if 0 < dp then l.take dp.toNat ++ List.replicate (dp.toNat - l.length) 48 else [48]
/-- The zeros behind the point. -/
def lzF (dp prec : Int) : Int := min prec (max 0 (-dp))
/-- How many digits stand behind them. -/
def midF (n : Nat) (dp prec : Int) : Int := min (prec - lzF dp prec) (max 0 ((n : Int) - (dp + lzF dp prec)))
def fracT (l : List UInt8) (dp prec : Int) : List UInt8 :=
  if 0 < prec then 46 :: (List.replicate (lzF dp prec).toNat 48 ++ (l.drop (dp + lzF dp prec).toNat).take (midF l.length dp prec).toNat ++
    List.replicate (max 0 (prec - lzF dp prec - midF l.length dp prec)).toNat 48) else []
def fmtF (neg : Bool) (l : List UInt8) (dp prec : Int) : List UInt8 := signT neg ++ wholeT l dp ++ fracT l dp prec

/-- It hands back a []byte of the call's own that holds l. -/
def RetB (N k : Nat) (l : List UInt8) (w : World) (e : Ending) (w' : World) : Prop := ∃ v', e = .returned v' ∧ OwnB w' N k v' l ∧ FrameB N k w w'
set_option maxHeartbeats 3200000 in
set_option maxRecDepth 100000 in
theorem fmtEFG_c (N k : Nat) (v : Value) (l0 l : List UInt8) (neg sh : Bool) (dp prec : Int) (sa : Option Addr) (sl sc : Nat) (w : World)
    (hown : OwnB w N k v l0) (hN : N ≤ w.heap.size) (hk : k < w.heap.size) (hl0 : l0.length ≤ 100) (hl : l.length ≤ 1000) (hdp0 : -1000 ≤ dp) (hdp1 : dp ≤ 1000) (hp0 : -10 ≤ prec) (hp1 : prec ≤ 1000)
    (hs : 0 < l.length ∨ 0 < dp → sa = some ⟨k, 0, none⟩) (hsl : l.length ≤ sl) (hsc : sl ≤ sc) (hr : ReadsB w k 0 l) :
    Calls Tryz.prog 89 #[v, .bool neg, .slice sa sl sc, .int .i64 dp, .int .i64 l.length, .int .i64 prec, .int .u8 102, .bool sh] w (RetB N k (l0 ++ fmtF neg l dp prec) w) := by
  go_enter Tryz.func89, Tryz.ntmps89
  go_upto_if 178 with fail
  go_cut [0] (fun s0 wx => OwnB wx N k s0 (l0 ++ signT neg) ∧ FrameB N k w wx)
  case first =>
    cases neg
    · go_wp2
      go_meet
      case rel => exact ⟨by simpa [signT] using hown, FrameB.refl _ _ _⟩
    · go_wp2_with (at_builtin; refine wp_append1 rfl _ _ rfl N k v l0 rfl hown 45 45 rfl 1 rfl (by omega) hN hk ?_; intro v' w1 hown1 hf1)
      go_meet
      case rel => exact ⟨by simpa [signT] using hown1, hf1⟩
  case rest =>
    obtain ⟨hown1, hf1⟩ := hcut
    have hN1 : N ≤ wc.heap.size := Nat.le_trans hN hf1.1.size
    have hk1 : k < wc.heap.size := Nat.lt_of_lt_of_le hk hf1.1.size
    have hr1 := hf1.reads hr
    have hL1 : (l0 ++ signT neg).length ≤ 101 := by cases neg <;> simp [signT] <;> omega
    have HL : Hid (l0 ++ fmtF neg l dp prec = (l0 ++ signT neg) ++ wholeT l dp ++ fracT l dp prec) := by apply Lib.hid; simp [fmtF]
    generalize l0 ++ signT neg = L1 at *
    have hN0 := hN
    have hk0 := hk
    have hr0 := hr
    have hr00 := hr
    clear hown hl0 hN hk hr
    go_upto_if 183 with fail
    go_cut [0] (fun s0 wx => OwnB wx N k s0 (L1 ++ wholeT l dp) ∧ FrameB N k w wx)
    case first =>
      by_cases hd : 0 < dp
      · rw [decide_eq_true hd]
        have hsa := hs (Or.inr hd)
        subst hsa
        clear hs
        obtain ⟨d, rfl⟩ := Int.eq_ofNat_of_zero_le (Int.le_of_lt hd)
        obtain ⟨m, hm, hm1, hm2, hm3⟩ : ∃ m : Nat, min (l.length : Int) (d : Int) = (m : Int) ∧ m ≤ l.length ∧ m ≤ d ∧ wholeT l d = l.take m ++ List.replicate (d - m) 48 := by
          refine ⟨min l.length d, by omega, by omega, by omega, ?_⟩
          rw [wholeT, if_pos hd]
          simp only [Int.toNat_natCast]
          rcases Nat.le_total l.length d with h | h
          · rw [Nat.min_eq_left h, List.take_of_length_le h, List.take_of_length_le (Nat.le_refl _)]
          · rw [Nat.min_eq_right h, show d - l.length = d - d by omega]
        have Hm3 := Lib.hid hm3
        clear hm3
        have Hr1 := Lib.hid hr1
        clear hr1
        go_wp2_with fail
        go_loopw [0, 191] (fun v i wr => ∃ j : Nat, j ≤ m ∧ i = .int .i64 j ∧ OwnB wr N k v (L1 ++ l.take j) ∧ FrameB N k wc wr) (fun _ i _ => (m - (intOf i).toNat))
        case atStart => exact ⟨0, Nat.zero_le _, rfl, by simpa using hown1, FrameB.refl _ _ _⟩
        case round =>
          obtain ⟨j, hj, rfl, ho, hf⟩ := hrel
          have hNr : N ≤ wr.heap.size := Nat.le_trans hN1 hf.1.size
          have hkr : k < wr.heap.size := Nat.lt_of_lt_of_le hk1 hf.1.size
          by_cases hlt : j < m
          · have hc : wr.cell? ⟨k, j, none⟩ = some (.int .u8 ((l.getD j 0).toNat : Int)) := (hf.reads Hr1.out).at0 j (by omega)
            generalize hb : l.getD j 0 = b at hc
            have htake : l.take (j + 1) = l.take j ++ [b] := by
              rw [← hb, List.take_succ_eq_append_getElem (by omega), List.getD_eq_getElem?_getD, List.getElem?_eq_getElem (by omega)]; rfl
            have Ht := Lib.hid htake
            have hlen : (L1 ++ l.take j).length < 140737488355328 := by simp; omega
            clear hb htake
            go_wp2_with (at_builtin; refine wp_append1 rfl _ _ rfl N k _ _ rfl ho b _ rfl 1 rfl hlen hNr hkr ?_; intro v' w1 ho1 hf2)
            go_roundw
            case rel => exact ⟨j + 1, by omega, by go_num, by rw [Ht.out, ← List.append_assoc]; exact ho1, hf.trans hf2⟩
            case measure => simp [intOf]; omega
          · obtain rfl : m = j := by omega
            go_wp2_with fail
            go_loopw [0, 203] (fun v i wr => ∃ j : Nat, j ≤ d - m ∧ i = .int .i64 j ∧ OwnB wr N k v (L1 ++ l.take m ++ List.replicate j 48) ∧ FrameB N k wc wr) (fun _ i _ => (d - m - (intOf i).toNat))
            case atStart => exact ⟨0, Nat.zero_le _, rfl, by simpa using ho, hf⟩
            case round =>
              obtain ⟨q, hq, rfl, ho, hf⟩ := hrel
              have hNr : N ≤ wr.heap.size := Nat.le_trans hN1 hf.1.size
              have hkr : k < wr.heap.size := Nat.lt_of_lt_of_le hk1 hf.1.size
              by_cases hlt : q < d - m
              · have htake : List.replicate (q + 1) (48 : UInt8) = List.replicate q 48 ++ [48] := List.replicate_succ'
                have Ht := Lib.hid htake
                have hlen : (L1 ++ l.take m ++ List.replicate q 48).length < 140737488355328 := by simp; omega
                clear htake
                go_wp2_with (at_builtin; refine wp_append1 rfl _ _ rfl N k _ _ rfl ho 48 48 rfl 1 rfl hlen hNr hkr ?_; intro v' w1 ho1 hf2)
                go_roundw
                case rel => exact ⟨q + 1, by omega, by go_num, by rw [Ht.out, ← List.append_assoc]; exact ho1, hf.trans hf2⟩
                case measure => simp [intOf]; omega
              · obtain hq2 : q = d - m := by omega
                have Hq := Lib.hid hq2
                clear hq2
                go_wp2_with fail
                go_meet
                case rel => exact ⟨by rw [Hm3.out, ← List.append_assoc, ← Hq.out]; exact ho, hf1.trans hf⟩
      · go_wp2_with (at_builtin; refine wp_append1 rfl _ _ rfl N k _ L1 rfl hown1 48 48 rfl 1 rfl (by omega) hN1 hk1 ?_; intro v' w1 hown1 hf2)
        go_meet
        case rel => exact ⟨by rw [wholeT, if_neg (by omega)]; exact hown1, hf1.trans hf2⟩
    case rest =>
      obtain ⟨hown2, hf2⟩ := hcut
      have hN2 : N ≤ wc.heap.size := Nat.le_trans hN0 hf2.1.size
      have hk2 : k < wc.heap.size := Nat.lt_of_lt_of_le hk0 hf2.1.size
      have hr2 := hf2.reads hr0
      have hL2 : (L1 ++ wholeT l dp).length ≤ 2200 := by
        rw [List.length_append]
        unfold wholeT
        split
        · rw [List.length_append, List.length_take, List.length_replicate]; omega
        · rw [List.length_singleton]; omega
      generalize L1 ++ wholeT l dp = L2 at *
      clear hown1 hN1 hk1 hr1 hL1 hf1
      go_upto_if 213 with fail
      by_cases hp : 0 < prec
      · rw [decide_eq_true hp]
        have HF : Hid (fracT l dp prec = 46 :: (List.replicate (lzF dp prec).toNat 48 ++ (l.drop (dp + lzF dp prec).toNat).take (midF l.length dp prec).toNat ++
            List.replicate (max 0 (prec - lzF dp prec - midF l.length dp prec)).toNat 48)) := Lib.hid (if_pos hp)
        obtain ⟨lz, hlz, hlz0, hlz1⟩ : ∃ lz : Nat, lzF dp prec = (lz : Int) ∧ (lz : Int) ≤ prec ∧ (lz = 0 ∨ dp < 0) := ⟨(lzF dp prec).toNat, by unfold lzF; omega, by unfold lzF; omega, by unfold lzF; omega⟩
        have hlz' : min prec (max 0 (-dp)) = (lz : Int) := hlz
        obtain ⟨m, hm, hm0, hm1, hm2⟩ : ∃ m : Nat, midF l.length dp prec = (m : Int) ∧ (m : Int) ≤ prec - lz ∧ (m = 0 ∨ (0 ≤ dp + lz ∧ dp + lz + m ≤ l.length)) ∧ m ≤ l.length := by
          refine ⟨(midF l.length dp prec).toNat, ?_⟩
          unfold midF at *
          rw [hlz]
          unfold lzF at hlz
          omega
        have hm' : min (prec - lz) (max 0 ((l.length : Int) - (dp + lz))) = (m : Int) := by rw [← hm]; unfold midF; rw [hlz]
        obtain ⟨tz, htz, htz1⟩ : ∃ tz : Nat, max 0 (prec - lz - m) = (tz : Int) ∧ tz ≤ 1000 := ⟨(max 0 (prec - lz - m)).toNat, by omega, by omega⟩
        rw [hlz, hm, htz] at HF
        have Hr2 := Lib.hid hr2
        clear hr2 hlz hm hr0
        go_wp2_with (at_builtin; refine wp_append1 rfl _ _ rfl N k _ L2 rfl hown2 46 46 rfl 1 rfl (by omega) hN2 hk2 ?_; intro v' w1 hown3 hf3)
        go_loopw [0, 240] (fun v i wr => ∃ j : Nat, j ≤ lz ∧ i = .int .i64 j ∧ OwnB wr N k v (L2 ++ [46] ++ List.replicate j 48) ∧ FrameB N k w wr) (fun _ i _ => (lz - (intOf i).toNat))
        case atStart => exact ⟨0, Nat.zero_le _, rfl, by simpa using hown3, hf2.trans hf3⟩
        case round =>
          obtain ⟨j, hj, rfl, ho, hf⟩ := hrel
          have hNr : N ≤ wr.heap.size := Nat.le_trans hN0 hf.1.size
          have hkr : k < wr.heap.size := Nat.lt_of_lt_of_le hk0 hf.1.size
          by_cases hlt : j < lz
          · have htake : List.replicate (j + 1) (48 : UInt8) = List.replicate j 48 ++ [48] := List.replicate_succ'
            have Ht := Lib.hid htake
            have hlen : (L2 ++ [46] ++ List.replicate j 48).length < 140737488355328 := by simp; omega
            clear htake
            go_wp2_with (at_builtin; refine wp_append1 rfl _ _ rfl N k _ _ rfl ho 48 48 rfl 1 rfl hlen hNr hkr ?_; intro v' w1 ho1 hf2)
            go_roundw
            case rel => exact ⟨j + 1, by omega, by go_num, by rw [Ht.out, ← List.append_assoc]; exact ho1, hf.trans hf2⟩
            case measure => simp [intOf]; omega
          · obtain hj2 : j = lz := by omega
            rw [hj2] at ho
            clear hj2 hown3 hf3 hown2 hf2
            go_wp2_with fail
            go_loopw [0, 30, 247] (fun v _ i wr => ∃ j : Nat, j ≤ m ∧ i = .int .i64 j ∧ OwnB wr N k v (L2 ++ [46] ++ List.replicate lz 48 ++ (l.drop (dp + lz).toNat).take j) ∧ FrameB N k w wr) (fun _ _ i _ => (m - (intOf i).toNat))
            case atStart => exact ⟨0, Nat.zero_le _, rfl, by simpa using ho, hf⟩
            case round =>
              obtain ⟨q, hq, rfl, ho, hf⟩ := hrel
              have hNr : N ≤ wr.heap.size := Nat.le_trans hN0 hf.1.size
              have hkr : k < wr.heap.size := Nat.lt_of_lt_of_le hk0 hf.1.size
              by_cases hlt : q < m
              · have hsa := hs (Or.inl (by omega))
                subst hsa
                have hoff0 : 0 ≤ dp + lz := by omega
                have hoff1 : dp + lz + q < l.length := by omega
                have hc : wr.cell? ⟨k, (dp + lz + q).toNat, none⟩ = some (.int .u8 ((l.getD (dp + lz + q).toNat 0).toNat : Int)) := (hf.reads hr00).at0 _ (by omega)
                generalize hb : l.getD (dp + lz + q).toNat 0 = b at hc
                have htake : (l.drop (dp + lz).toNat).take (q + 1) = (l.drop (dp + lz).toNat).take q ++ [b] := by
                  rw [← hb, List.take_succ_eq_append_getElem (by rw [List.length_drop]; omega), List.getElem_drop, List.getD_eq_getElem?_getD, List.getElem?_eq_getElem (by omega)]
                  simp [show (dp + lz).toNat + q = (dp + lz + q).toNat by omega]
                have Ht := Lib.hid htake
                have hlen : (L2 ++ [46] ++ List.replicate lz 48 ++ (l.drop (dp + lz).toNat).take q).length < 140737488355328 := by simp; omega
                clear hb htake
                go_wp2_with (at_builtin; refine wp_append1 rfl _ _ rfl N k _ _ rfl ho b _ rfl 1 rfl hlen hNr hkr ?_; intro v' w1 ho1 hf2)
                go_roundw
                case rel => exact ⟨q + 1, by omega, by go_num, by rw [Ht.out, ← List.append_assoc]; exact ho1, hf.trans hf2⟩
                case measure => simp [intOf]; omega
              · obtain hq2 : q = m := by omega
                rw [hq2] at ho
                clear hq2
                go_wp2_with fail
                go_loopw [0, 261] (fun v i wr => ∃ j : Nat, j ≤ tz ∧ i = .int .i64 j ∧ OwnB wr N k v (L2 ++ [46] ++ List.replicate lz 48 ++ (l.drop (dp + lz).toNat).take m ++ List.replicate j 48) ∧ FrameB N k w wr) (fun _ i _ => (tz - (intOf i).toNat))
                case atStart => exact ⟨0, Nat.zero_le _, rfl, by simpa using ho, hf⟩
                case round =>
                  obtain ⟨t, ht, rfl, ho, hf⟩ := hrel
                  have hNr : N ≤ wr.heap.size := Nat.le_trans hN0 hf.1.size
                  have hkr : k < wr.heap.size := Nat.lt_of_lt_of_le hk0 hf.1.size
                  by_cases hlt : t < tz
                  · have htake : List.replicate (t + 1) (48 : UInt8) = List.replicate t 48 ++ [48] := List.replicate_succ'
                    have Ht := Lib.hid htake
                    have hlen : (L2 ++ [46] ++ List.replicate lz 48 ++ (l.drop (dp + lz).toNat).take m ++ List.replicate t 48).length < 140737488355328 := by simp; omega
                    clear htake
                    go_wp2_with (at_builtin; refine wp_append1 rfl _ _ rfl N k _ _ rfl ho 48 48 rfl 1 rfl hlen hNr hkr ?_; intro v' w1 ho1 hf2)
                    go_roundw
                    case rel => exact ⟨t + 1, by omega, by go_num, by rw [Ht.out, ← List.append_assoc]; exact ho1, hf.trans hf2⟩
                    case measure => simp [intOf]; omega
                  · obtain ht2 : t = tz := by omega
                    rw [ht2] at ho
                    clear ht2
                    go_wp2
                    go_ret
                    refine ⟨_, rfl, ?_, hf⟩
                    rw [HL.out, HF.out]
                    simpa using ho
      · go_wp2
        go_ret
        exact ⟨_, rfl, by rw [HL.out, fracT, if_neg (by omega), List.append_nil]; exact hown2, hf2⟩

end Go.Proofs.YtfbgnonnbcejkaaGreatDoor
