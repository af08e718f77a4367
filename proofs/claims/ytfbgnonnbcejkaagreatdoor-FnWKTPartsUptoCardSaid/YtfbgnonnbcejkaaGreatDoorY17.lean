/- Lemmas on the way to the law FnWKTParts, without conditions beside those that each states: The builder of the text: copyCheck, WriteString, WriteRune. -/
import Derived.Test.YtfbgnonnbcejkaaGreatDoorY04
import Derived.Test.YtfbgnonnbcejkaaGreatDoorY02
namespace Go.Proofs.YtfbgnonnbcejkaaGreatDoor
open Go.RowKit
open Go.Lib (byteCells byteCells_length byteCells_append strCells)

/-- The builder at block b, in use or not yet, holds these bytes. -/
def Sb (B b : Nat) (l : List UInt8) (w : World) : Prop := Lib.IsBuilder 95 5 B b (byteCells l) w
/-- Blocks that stood stand as they stood: the builder, too. -/
theorem Sb.below {B b : Nat} {l : List UInt8} {w w' : World} (h : Sb B b l w) (hb : Below w.heap.size w w') : Sb B b l w' := by
  have hA : ∀ p, Lib.BuilderAt 95 5 B b p (byteCells l) w → Lib.BuilderAt 95 5 B b p (byteCells l) w' := by
    rintro p ⟨hB, v, hbk, hown, hne⟩
    have hlt : ∀ {g : Nat} {x : Obj}, w.heap[g]? = some x → w'.heap[g]? = some x := by
      intro g x hg
      have : g < w.heap.size := by
        rcases Nat.lt_or_ge g w.heap.size with h' | h'
        · exact h'
        · simp [Array.getElem?_eq_none h'] at hg
      rw [hb.block g this, hg]
    refine ⟨hB, v, hlt hbk, ?_, hne⟩
    refine ⟨hown.1, ?_⟩
    rcases hown.2 with h0 | ⟨g, cap, cur, hv, h1, h2, h3⟩
    · exact Or.inl h0
    · exact Or.inr ⟨g, cap, cur, hv, h1, hlt h2, h3⟩
  exact h.elim (fun x => Or.inl (hA _ x)) (fun x => Or.inr (hA _ x))
theorem Sb.lt {B b : Nat} {l : List UInt8} {w : World} (h : Sb B b l w) : b < w.heap.size ∧ B ≤ b := by
  rcases h with h | h <;> exact ⟨h.lt, h.1⟩

theorem size95 : ∃ j, Tryz.prog.info? 95 = some j ∧ j.size = 2 := Option.map_eq_some_iff.1 (by kernel_rfl)
set_option maxRecDepth 100000 in
theorem copyCheck_fresh (b : Nat) (w : World) (h0 : w.cell? ⟨b, 0, none⟩ = some (.pointer none)) (hsh : w.shape? b = some (95, 2)) (hfz : w.frozen? ⟨b, 0, none⟩ = false) :
    Calls Tryz.prog 75 #[.pointer (some ⟨b, 0, none⟩)] w fun e w' => e = .returned (.tuple #[]) ∧ w' = w.setCell ⟨b, 0, none⟩ (.pointer (some ⟨b, 0, none⟩)) := by
  obtain ⟨j, hj, hjs⟩ := size95
  go_enter Tryz.func75, Tryz.ntmps75
  go_wp2
  rw [Lib.run_to_unsafe w ⟨b, 0, none⟩ Tryz.underlying92 Tryz.underlying149 hj (by rw [hjs]; decide) hsh (Nat.zero_lt_succ 1)]
  simp only [Result.andThen]
  rw [Oper.upon_value]
  go_wp2
  rw [run_callFunc_extern Tryz.func78 (by kernel_rfl) (by kernel_rfl) (by kernel_rfl) (e := Extern.AbiNoEscape.same) (by kernel_rfl)]
  rw [Lib.run_noEscape]
  simp only [Result.andThen]
  rw [Oper.upon_value]
  go_wp2
  rw [Lib.run_from_unsafe w ⟨b, 0, none⟩ Tryz.underlying149 Tryz.underlying92 hj hsh (by kernel_rfl)]
  simp only [Result.andThen]
  rw [Oper.upon_value]
  go_wp2
  go_end0
  exact ⟨rfl, rfl⟩
set_option maxRecDepth 100000 in
theorem copyCheck_used (b : Nat) (w : World) (h0 : w.cell? ⟨b, 0, none⟩ = some (.pointer (some ⟨b, 0, none⟩))) :
    Calls Tryz.prog 75 #[.pointer (some ⟨b, 0, none⟩)] w fun e w' => e = .returned (.tuple #[]) ∧ w' = w := by
  obtain ⟨j, hj, _⟩ := size95
  go_enter Tryz.func75, Tryz.ntmps75
  go_wp2
  rw [Lib.run_neq_ptr_same w _ Tryz.underlying92 hj]
  go_wp2
  go_end0
  exact ⟨rfl, rfl⟩
theorem copyCheck_c (B b : Nat) (l : List UInt8) (w : World) (h : Sb B b l w) :
    Calls Tryz.prog 75 #[.pointer (some ⟨b, 0, none⟩)] w fun e w' => e = .returned (.tuple #[]) ∧ (Lib.BuilderAt 95 5 B b (.pointer (some ⟨b, 0, none⟩)) (byteCells l) w' ∧ Below B w w') := by
  rcases h with h | h
  · refine (copyCheck_fresh b w h.cell0 h.shape h.frozen0).mono ?_
    rintro e w' ⟨rfl, rfl⟩
    exact ⟨rfl, h.used _, (Below.refl B w).setCell (p := ⟨b, 0, none⟩) h.1 _⟩
  · refine (copyCheck_used b w h.cell0).mono ?_
    rintro e w' ⟨rfl, rfl⟩
    exact ⟨rfl, h, Below.refl B _⟩

set_option maxHeartbeats 2000000 in
theorem writeString_c (B b : Nat) (l s : List UInt8) (w : World) (h : Sb B b l w) (hlen : l.length + s.length ≤ 140737488355328) (hBw : B ≤ w.heap.size) :
    Calls Tryz.prog 57 #[.pointer (some ⟨b, 0, none⟩), .string ⟨s.toArray⟩] w fun e w' => e = .returned (.tuple #[.int .i64 s.length, .nilIface]) ∧ (Sb B b (l ++ s) w' ∧ Below B w w') := by
  obtain ⟨i0, hi, hz0, hz1, hz2⟩ := info_parts Tryz.Builder_Extra_169.infoByte
  have hss : (⟨s.toArray⟩ : ByteArray).size = s.length := by simp [ByteArray.size]
  have hsc : strCells ⟨s.toArray⟩ = byteCells s := rfl
  generalize (⟨s.toArray⟩ : ByteArray) = S at *
  have Hsc := Lib.hid hsc
  have Hss := Lib.hid hss
  clear hsc hss
  go_enter Tryz.func57, Tryz.ntmps57
  go_wp2_with (go_at_call 75; refine (copyCheck_c B b l _ h).mono ?_)
  rintro e w1 ⟨rfl, h1, hb1⟩
  obtain ⟨hB, v, hbk, hown, hne⟩ := h1
  have c0 : w1.cell? ⟨b, 0, none⟩ = some (.pointer (some ⟨b, 0, none⟩)) := by rw [Lib.cell_of_heap hbk]; rfl
  have c1 : w1.cell? ⟨b, 1, none⟩ = some v := by rw [Lib.cell_of_heap hbk]; rfl
  go_wp2_with (at_builtin; refine Lib.wpList_append_own_string _ rfl _ _ 93 9 rfl B 5 i0 Tryz.underlying93 Tryz.underlying9 hi hz0 hz1 hz2 _ _ _ rfl hown S rfl ?c3 ?c4 ?c5 ?_)
  case c3 => rw [byteCells_length, Hss.out]; unfold maxLen; omega
  case c4 => rw [byteCells_length, Hss.out]; omega
  case c5 => have := hb1.size; omega
  intro v' w2 hown' hgrow _
  have hlt : b < w1.heap.size := by
    rcases Nat.lt_or_ge b w1.heap.size with h' | h'
    · exact h'
    · simp [Array.getElem?_eq_none h'] at hbk
  have hb2 : w2.heap[b]? = some (.cells #[.pointer (some ⟨b, 0, none⟩), v] 95 (0, 0)) := by
    rw [hgrow.block b hlt (fun e => hne e.symm)]
    exact hbk
  have d0 : w2.cell? ⟨b, 0, none⟩ = some (.pointer (some ⟨b, 0, none⟩)) := by rw [Lib.cell_of_heap hb2]; rfl
  have d1 : w2.cell? ⟨b, 1, none⟩ = some v := by rw [Lib.cell_of_heap hb2]; rfl
  have f1 : w2.frozen? ⟨b, 1, none⟩ = false := Lib.frozen_of_heap hb2 1
  obtain ⟨ao, n', cap, rfl⟩ : ∃ ao n' cap, v' = .slice ao n' cap := by
    rcases hown'.2 with ⟨hv, _⟩ | ⟨g, cap, cur, hv, _⟩
    · exact ⟨_, _, _, hv⟩
    · exact ⟨_, _, _, hv⟩
  go_wp2
  go_ret2
  refine ⟨by rw [← Hss.out]; rfl, ?_, ?_⟩
  · refine Or.inr (Lib.BuilderAt.put (T := 95) (e := 5) hB hb2 (bs' := byteCells (l ++ s)) ?_ (by decide))
    rw [byteCells_append, List.length_append, byteCells_length, byteCells_length]
    rw [Hss.out, Hsc.out, byteCells_length] at hown'
    exact hown'
  · exact (hb1.grown hgrow (by have := hb1.size; omega) (fun k hk => (hown.lt k hk).1)).setCell (p := ⟨b, 1, none⟩) hB _

set_option maxHeartbeats 2000000 in
theorem writeRune_c (B b : Nat) (l : List UInt8) (c : UInt8) (z : Int) (hz : z = (c.toNat : Int)) (hc : c.toNat ≤ 127) (w : World) (h : Sb B b l w) (hlen : l.length + 4 ≤ 140737488355328) (hBw : B ≤ w.heap.size) :
    Calls Tryz.prog 72 #[.pointer (some ⟨b, 0, none⟩), .int .i32 z] w fun e w' => e = .returned (.tuple #[.int .i64 1, .nilIface]) ∧ (Sb B b (l ++ [c]) w' ∧ Below B w w') := by
  have hrc : Lib.runeCells z = byteCells [c] := by
    rw [show Lib.runeCells z = [.int .u8 z] by simp [Lib.runeCells, Lib.encodeRuneZ_one (r := z) (by omega) (by omega)], hz]
    rfl
  have Hrc := Lib.hid hrc
  have Hz := Lib.hid hz
  clear hrc
  go_enter Tryz.func72, Tryz.ntmps72
  go_wp2_with (go_at_call 75; refine (copyCheck_c B b l _ h).mono ?_)
  rintro e w1 ⟨rfl, h1, hb1⟩
  obtain ⟨hB, v, hbk, hown, hne⟩ := h1
  have c0 : w1.cell? ⟨b, 0, none⟩ = some (.pointer (some ⟨b, 0, none⟩)) := by rw [Lib.cell_of_heap hbk]; rfl
  obtain ⟨a1, n1, cap1, rfl⟩ : ∃ ao n' cap, v = .slice ao n' cap := by
    rcases hown.2 with ⟨hv, _⟩ | ⟨g, cap, cur, hv, _⟩
    · exact ⟨_, _, _, hv⟩
    · exact ⟨_, _, _, hv⟩
  have c1 : w1.cell? ⟨b, 1, none⟩ = some (.slice a1 n1 cap1) := by rw [Lib.cell_of_heap hbk]; rfl
  have hn1 : n1 = l.length := by
    rcases hown.2 with ⟨hv, h0⟩ | ⟨g, cap, cur, hv, _⟩
    · cases hv; rw [byteCells_length] at h0; omega
    · cases hv; rw [byteCells_length]
  subst hn1
  have hlt : b < w1.heap.size := by
    rcases Nat.lt_or_ge b w1.heap.size with h' | h'
    · exact h'
    · simp [Array.getElem?_eq_none h'] at hbk
  have hC := Lib.hid (Tryz.utf8_AppendRune_plain B _ _ _ z (by omega) (by omega) w1 hown (by rw [byteCells_length]; omega) (by have := hb1.size; omega))
  clear hz
  go_wp2_with (go_at_call 77; refine hC.out.mono ?_)
  rintro e w2 ⟨v', rfl, hown', o, hgrow⟩
  have hb2 : w2.heap[b]? = some (.cells #[.pointer (some ⟨b, 0, none⟩), .slice a1 l.length cap1] 95 (0, 0)) := by
    rw [hgrow.block b (by simp; omega) (fun e => hne e.symm), Lib.alloc_old w1 _ b hlt]
    exact hbk
  have d0 : w2.cell? ⟨b, 0, none⟩ = some (.pointer (some ⟨b, 0, none⟩)) := by rw [Lib.cell_of_heap hb2]; rfl
  have d1 : w2.cell? ⟨b, 1, none⟩ = some (.slice a1 l.length cap1) := by rw [Lib.cell_of_heap hb2]; rfl
  have f1 : w2.frozen? ⟨b, 1, none⟩ = false := Lib.frozen_of_heap hb2 1
  rw [Hrc.out] at hown'
  have hl1 : (byteCells [c]).length = 1 := rfl
  rw [hl1, byteCells_length] at hown'
  obtain ⟨ao, cap, rfl⟩ : ∃ ao cap, v' = .slice ao (l.length + 1) cap := by
    rcases hown'.2 with ⟨hv, h0⟩ | ⟨g, cap, cur, hv, _⟩
    · exact absurd h0 (by omega)
    · exact ⟨_, _, hv⟩
  have Hown := Lib.hid hown'
  have Hgrow := Lib.hid hgrow
  have Hb1 := Lib.hid hb1
  have Hb2 := Lib.hid hb2
  have Hown0 := Lib.hid hown
  clear hown' hgrow hb1 hb2 hown hl1
  go_wp2
  go_ret2
  refine ⟨by simp; omega, ?_, ?_⟩
  · refine Or.inr (Lib.BuilderAt.put (T := 95) (e := 5) hB Hb2.out (bs' := byteCells (l ++ [c])) ?_ (by decide))
    rw [byteCells_append, List.length_append, byteCells_length, byteCells_length]
    exact Hown.out
  · have hb1 := Hb1.out
    exact ((hb1.alloc (by have := hb1.size; omega) _).grown Hgrow.out (by have := hb1.size; simp; omega) (fun k hk => (Hown0.out.lt k hk).1)).setCell (p := ⟨b, 1, none⟩) hB _
end Go.Proofs.YtfbgnonnbcejkaaGreatDoor
