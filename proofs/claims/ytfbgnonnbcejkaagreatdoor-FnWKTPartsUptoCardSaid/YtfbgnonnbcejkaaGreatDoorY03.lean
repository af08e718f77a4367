/- Lemmas on the way to the law FnWKTParts, without conditions beside those that each states: numDigits, prescale: what each returns, over the tables of the library's. -/
import Derived.Test.YtfbgnonnbcejkaaGreatDoorY01
import Derived.Test.YtfbgnonnbcejkaaGreatDoorY02
namespace Go.Proofs.YtfbgnonnbcejkaaGreatDoor
open Go.RowKit

/-- The numbers of pow10Tab, hi and lo by turns. -/
def p10L : List Nat := Go.Pinned.pow10Rows.flatMap fun x => [x.1, x.2]
def p10 (i : Nat) : Int := (p10L.getD i 0 : Nat)
theorem p10L_small : p10L.all (fun n => decide (n < 18446744073709551616)) = true := by decide +kernel
theorem p10_range (i : Nat) : 0 ≤ p10 i ∧ p10 i < 18446744073709551616 := by
  unfold p10
  have h : p10L.getD i 0 < 18446744073709551616 := by
    rw [List.getD_eq_getElem?_getD]
    rcases Nat.lt_or_ge i p10L.length with hi | hi
    · rw [List.getElem?_eq_getElem hi]
      have := List.all_eq_true.1 p10L_small p10L[i] (List.getElem_mem hi)
      simpa using this
    · rw [List.getElem?_eq_none hi]; simp
  omega

/-- What the library's tables hold, in the world w, all of it in blocks below B. -/
structure Tabs (B : Nat) (w : World) : Prop where
  low : 4 ≤ B
  opt : w.cell? ⟨0, 0, none⟩ = some (.bool true)
  u10 : ∀ i, i < 20 → w.cell? ⟨1, i, none⟩ = some (.int .u64 ((10 ^ i : Nat) : Int))
  p10 : ∀ i, i < 1392 → w.cell? ⟨2, i, none⟩ = some (.int .u64 (p10 i))
  cheats : ∃ b o, b < B ∧ w.cell? ⟨3, 0, none⟩ = some (.slice (some ⟨b, o, none⟩) 61 61) ∧
    ∀ i, i < 61 → w.cell? ⟨b, o + i * 2, none⟩ = some (.int .i64 ((Go.Pinned.cheatRows.getD i (0, [])).1 : Int)) ∧
      w.cell? ⟨b, o + i * 2 + 1, none⟩ = some (.string ⟨((Go.Pinned.cheatRows.getD i (0, [])).2).toArray⟩)
theorem Tabs.below {B : Nat} {w w' : World} (T : Tabs B w) (h : Below B w w') : Tabs B w' := by
  have hl := T.low
  obtain ⟨b, o, hb, h3, hc⟩ := T.cheats
  refine ⟨hl, ?_, fun i hi => ?_, fun i hi => ?_, b, o, hb, ?_, fun i hi => ⟨?_, ?_⟩⟩
  · rw [h.cell (by show 0 < B; omega)]; exact T.opt
  · rw [h.cell (by show 1 < B; omega)]; exact T.u10 i hi
  · rw [h.cell (by show 2 < B; omega)]; exact T.p10 i hi
  · rw [h.cell (by show 3 < B; omega)]; exact h3
  · rw [h.cell hb]; exact (hc i hi).1
  · rw [h.cell hb]; exact (hc i hi).2

theorem len64_c (x : Int) (w : World) (h0 : 0 ≤ x) (h1 : x < 18446744073709551616) :
    Calls Tryz.prog 90 #[.int .u64 x] w fun e w' => e = .returned (.int .i64 (Lib.bitLen x.toNat)) ∧ w = w' :=
  (Tryz.bits_Len64 x w h0 (by omega)).mono fun _ _ ⟨a, b⟩ => ⟨a, b.symm⟩

/-- How many decimal digits a number has; 0 has none. -/
def nDig (d : Int) : Int := if d = 0 then 0 else Lib.nDigits d.toNat

set_option maxHeartbeats 1000000 in
theorem numDigits_c {B : Nat} (d : Int) (w : World) (T : Tabs B w) (h0 : 0 ≤ d) (h1 : d < 18446744073709551616) :
    Calls Tryz.prog 93 #[.int .u64 d] w fun e w' => e = .returned (.int .i64 (nDig d)) ∧ w = w' := by
  have hL : Lib.bitLen d.toNat ≤ 64 := Lib.bitLen_le d.toNat 64 (Nat.le_refl _) (by omega)
  have e1 : ((Lib.bitLen d.toNat : Nat) : Int) * 78913 / 262144 = ((Lib.l10 (Lib.bitLen d.toNat) : Nat) : Int) := by unfold Lib.l10; omega
  have hq : Lib.l10 (Lib.bitLen d.toNat) < 20 := by unfold Lib.l10; omega
  have hn : nDig d = (Lib.l10 (Lib.bitLen d.toNat) : Int) + (if ((10 ^ Lib.l10 (Lib.bitLen d.toNat) : Nat) : Int) ≤ d then 1 else 0) := by
    unfold nDig
    by_cases hz : d = 0
    · subst hz
      rw [if_pos rfl]
      decide +kernel
    · rw [if_neg hz]
      obtain ⟨hnd, _⟩ := Lib.numDigits_eq d.toNat (by omega) (by omega)
      rw [← hnd]
      by_cases hc : 10 ^ Lib.l10 (Lib.bitLen d.toNat) ≤ d.toNat
      · rw [if_pos hc, if_pos (by omega)]; omega
      · rw [if_neg hc, if_neg (by omega)]; omega
  have hcell := T.u10 _ hq
  generalize Lib.l10 (Lib.bitLen d.toNat) = q at e1 hq hn hcell
  generalize hb : ((Lib.bitLen d.toNat : Nat) : Int) = b at e1
  have hb0 : 0 ≤ b := by omega
  have hb1 : b ≤ 64 := by omega
  clear hL
  generalize hT : ((10 ^ q : Nat) : Int) = t at hn hcell
  have Hn := Lib.hid hn
  have Hb := Lib.hid hb
  have He := Lib.hid e1
  clear hn hb e1 hT
  go_enter Tryz.func93, Tryz.ntmps93
  go_wp2_with (first
    | (go_at_call 90; refine (len64_c _ _ h0 h1).mono ?_; rintro e w' ⟨rfl, rfl⟩; rw [Hb.out])
    | (go_at_call 94; refine (log10Pow2_c _ _ (by omega) (by omega)).mono ?_; rintro e w' ⟨rfl, rfl⟩; rw [He.out])
    | (go_at_call 112; refine (bool2i_c _ _).mono ?_; rintro e w' ⟨rfl, rfl⟩))
  all_goals go_ret
  all_goals exact ⟨ret_int (by rw [Hn.out]; split <;> omega), rfl⟩

theorem below3 (g : Nat) (w : World) (a b c : Value) : Below g w (((w.setCell ⟨g, 0, none⟩ a).setCell ⟨g, 1, none⟩ b).setCell ⟨g, 2, none⟩ c) :=
  (((Below.refl g w).setCell (p := ⟨g, 0, none⟩) (Nat.le_refl _) a).setCell (p := ⟨g, 1, none⟩) (Nat.le_refl _) b).setCell (p := ⟨g, 2, none⟩) (Nat.le_refl _) c
set_option maxHeartbeats 800000 in
theorem prescale_c {B : Nat} (g : Nat) (a b c : Value) (e p lp : Int) (w : World) (T : Tabs B w) (h0 : -100000 ≤ e) (h1 : e ≤ 100000) (h2 : -348 ≤ p) (h3 : p < 348) (h4 : -100000 ≤ lp) (h5 : lp ≤ 100000)
    (hg : w.heap[g]? = some (.cells #[a, b, c] 183 (0, 0))) :
    Calls Tryz.prog 104 #[.pointer (some ⟨g, 0, none⟩), .int .i64 e, .int .i64 p, .int .i64 lp] w fun en w' => en = .returned (.tuple #[]) ∧
      w'.heap[g]? = some (.cells #[.int .u64 (p10 ((p + 348).toNat * 2)), .int .u64 (p10 ((p + 348).toNat * 2 + 1)), .int .i64 (-(e + lp + 3))] 183 (0, 0)) ∧ Below g w w' ∧ w'.heap.size = w.heap.size := by
  have f0 : w.frozen? ⟨g, 0, none⟩ = false := by simp [World.frozen?, hg]
  have f1 : w.frozen? ⟨g, 1, none⟩ = false := by simp [World.frozen?, hg]
  have f2 : w.frozen? ⟨g, 2, none⟩ = false := by simp [World.frozen?, hg]
  have d0 : w.cell? ⟨g, 0, none⟩ = some a := by simp [World.cell?, hg]
  have d1 : w.cell? ⟨g, 1, none⟩ = some b := by simp [World.cell?, hg]
  have d2 : w.cell? ⟨g, 2, none⟩ = some c := by simp [World.cell?, hg]
  have c0 := T.p10 ((p + 348).toNat * 2) (by omega)
  have c1 := T.p10 ((p + 348).toNat * 2 + 1) (by omega)
  have hlow := T.low
  have Hg := Lib.hid hg
  clear hg
  go_enter Tryz.func104, Tryz.ntmps104
  go_wp2
  go_end0
  refine ⟨rfl, ?_, ?_, ?_⟩
  · simp [World.setCell, Array.getElem?_modify, Hg.out]
  · exact below3 g w _ _ _
  · simp [World.setCell]

end Go.Proofs.YtfbgnonnbcejkaaGreatDoor
