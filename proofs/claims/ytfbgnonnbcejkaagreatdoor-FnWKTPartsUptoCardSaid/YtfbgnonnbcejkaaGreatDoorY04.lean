/- Lemmas on the way to the law FnWKTParts, without conditions beside those that each states: setDigits: the digits of a number into a buffer of zeros, and how many are left without the zeros at their end. -/
import Derived.Test.YtfbgnonnbcejkaaGreatDoorY03
import Derived.LoopTactic
namespace Go.Proofs.YtfbgnonnbcejkaaGreatDoor
open Go.RowKit
open Go.Sort (Holds putRow cell?_putRow)
open Go.Lib (decDigits nDigits dg decDigits_length decDigits_eq lt_pow_nDigits)

/-- A byte as a cell holds it. -/
abbrev u8c (b : UInt8) : Value := .int .u8 (b.toNat : Int)
/-- A number's decimal digits; of 0 none. -/
def digs (d : Int) : List UInt8 := if d = 0 then [] else decDigits d.toNat
theorem digs_len (d : Int) : nDig d = ((digs d).length : Int) := by
  unfold nDig digs
  split <;> simp [decDigits_length]
theorem digs_le (d : Int) (h0 : 0 ≤ d) (h : d < 18446744073709551616) : (digs d).length ≤ 20 := by
  unfold digs
  split
  · simp
  · rw [decDigits_length]
    have := Lib.numDigits_eq d.toNat (by omega) (by omega)
    split at this <;> omega
theorem dg_digs (d : Int) (j : Nat) (hj : j < (digs d).length) : dg d.toNat ((digs d).length - 1 - j) = (digs d).getD j 0 := by
  unfold digs at *
  split at hj
  · simp at hj
  · rename_i hz
    rw [if_neg hz]
    rw [decDigits_length] at *
    rw [decDigits_eq]
    simp [List.getD, List.getElem?_map, List.getElem?_range hj]
theorem digs_small (d : Int) : d.toNat < 10 ^ (digs d).length := by
  unfold digs
  split
  · rename_i hz; subst hz; simp
  · rw [decDigits_length]
    exact lt_pow_nDigits d.toNat

/-- The list's first k, without the zeros at their end: how many. -/
def stripLen (l : List UInt8) : Nat → Nat
  | 0 => 0
  | k + 1 => if l.getD k 0 = 48 then stripLen l k else k + 1

/-- A row of cells from off on in block blk reads as these bytes. -/
def ReadsB (w : World) (blk off : Nat) (l : List UInt8) : Prop := ∀ j, j < l.length → w.cell? ⟨blk, off + j, none⟩ = some (u8c (l.getD j 0))
theorem ReadsB.at0 {w : World} {blk : Nat} {l : List UInt8} (h : ReadsB w blk 0 l) (j : Nat) (hj : j < l.length) : w.cell? ⟨blk, j, none⟩ = some (u8c (l.getD j 0)) := by
  have := h j hj
  rwa [Nat.zero_add] at this
/-- What a call that writes into block blk alone leaves of the rest. -/
def Only (blk : Nat) (w w' : World) : Prop := Below blk w w' ∧ w'.heap.size = w.heap.size

set_option maxHeartbeats 800000 in
theorem formatBase10_c {t : TypeId} (blk L : Nat) (d : Int) (l : List UInt8) (w : World) (h0 : 0 ≤ d) (h1 : d < 18446744073709551616) (hl : l = digs d) (hL : 20 ≤ L) (hL2 : L ≤ 1000)
    (hb : w.heap[blk]? = some (.cells (Array.replicate L (.int .u8 0)) t (0, 0))) :
    Calls Tryz.prog 111 #[.slice (some ⟨blk, 0, none⟩) l.length L, .int .u64 d] w fun e w' => e = .returned (.tuple #[]) ∧ ReadsB w' blk 0 l ∧ Only blk w w' := by
  subst hl
  have hlen := digs_le d h0 h1
  obtain ⟨u, rfl⟩ := Int.eq_ofNat_of_zero_le h0
  have hH : Holds (fun (b : UInt8) => Value.int .u8 (b.toNat : Int)) w blk 0 (Array.replicate (digs u).length (0 : UInt8)) := fun j hj => by
    have hj' : j < (digs u).length := by simpa using hj
    refine ⟨?_, by simp [World.frozen?, hb]⟩
    rw [getElem!_pos _ j hj]
    simp [World.cell?, hb, Array.getElem?_replicate]
    omega
  have hc := Tryz.internal_strconv_formatBase10 blk 0 L u (Array.replicate (digs u).length 0) w hH (by have := digs_small (u : Int); simpa using this) (by omega) (by simp; omega)
  simp only [Array.size_replicate] at hc
  refine hc.mono ?_
  rintro e w' ⟨rfl, m, v', dk, rfl, hF⟩
  refine ⟨rfl, fun j hj => ?_, ?_, ?_⟩
  · have := cell?_putRow (fun (b : UInt8) => Value.int .u8 (b.toNat : Int)) w blk 0 (Array.replicate (digs u).length 0) dk hH (by rw [hF.size]; simp) j (by rw [hF.size]; omega)
    refine Eq.trans this ?_
    rw [hF.done j (Nat.zero_le _) hj]
    rw [← dg_digs (u : Int) j hj]
    simp
  · refine ⟨rfl, rfl, rfl, by simp, fun k hk => ?_⟩
    show (putRow _ w blk 0 dk).heap[k]? = _
    simp [putRow, Go.Sort.mapBlock, Array.getElem?_modify]
    omega
  · show (putRow _ w blk 0 dk).heap.size = _
    simp

set_option maxHeartbeats 800000 in
theorem setDigits_c {t : TypeId} (blk L : Nat) (d p : Int) (l : List UInt8) (w : World) (h0 : 0 ≤ d) (h1 : d < 18446744073709551616) (hp0 : -100000 ≤ p) (hp1 : p ≤ 100000) (hl : l = digs d) (hL : 20 ≤ L) (hL2 : L ≤ 1000)
    (hb : w.heap[blk]? = some (.cells (Array.replicate L (.int .u8 0)) t (0, 0))) :
    Calls Tryz.prog 92 #[.slice (some ⟨blk, 0, none⟩) L L, .int .u64 d, .int .i64 p, .int .i64 l.length] w fun e w' =>
      e = .returned (.tuple #[.int .i64 (l.length + p), .int .i64 (stripLen l l.length)]) ∧ ReadsB w' blk 0 l ∧ Only blk w w' := by
  have hlen : l.length ≤ 20 := by rw [hl]; exact digs_le d h0 h1
  have hfb := fun w1 (hw : w1 = w) => by
    subst hw; exact formatBase10_c blk L d l w1 h0 h1 hl hL hL2 hb
  clear hb hl
  go_enter Tryz.func92, Tryz.ntmps92
  go_wp2_with (go_at_call 111; refine (hfb _ rfl).mono ?_; rintro e w1 ⟨rfl, hc, hbel⟩)
  clear hfb
  go_loop [3] (fun s => ∃ k : Nat, k ≤ l.length ∧ s = .int .i64 k ∧ stripLen l k = stripLen l l.length) (fun s => (intOf s).toNat)
  case atStart => exact ⟨_, Nat.le_refl _, rfl, rfl⟩
  case round =>
    obtain ⟨k, hk, rfl, hs⟩ := hrel
    have Hs := Lib.hid hs
    clear hs
    rcases k with _ | k
    · go_wp2
      go_ret2
      exact ⟨by rw [← Hs.out]; rfl, hc, hbel⟩
    · have hcell : w1.cell? ⟨blk, k, none⟩ = some (.int .u8 ((l.getD k 0).toNat : Int)) := hc.at0 k (by omega)
      by_cases h48 : l.getD k 0 = 48
      · have hcell' : w1.cell? ⟨blk, k, none⟩ = some (.int .u8 48) := by rw [hcell, h48]; rfl
        have H48 := Lib.hid h48
        clear hcell h48
        go_wp2
        go_round
        case rel => exact ⟨k, by omega, by go_num, by rw [← Hs.out]; simp only [stripLen]; rw [if_pos H48.out]⟩
        case measure => simp [intOf]
      · have hv : ((((l.getD k 0).toNat : Nat) : Int) == 48) = false := by
          rw [beq_eq_false_iff_ne]
          intro he
          exact h48 (UInt8.toNat_inj.1 (by show _ = 48; omega))
        have H48 := Lib.hid h48
        clear h48
        generalize ((l.getD k 0).toNat : Int) = v at hcell hv
        go_wp2
        go_ret2
        refine ⟨?_, hc, hbel⟩
        rw [← Hs.out]
        simp only [stripLen]
        rw [if_neg H48.out]
        simp
end Go.Proofs.YtfbgnonnbcejkaaGreatDoor
