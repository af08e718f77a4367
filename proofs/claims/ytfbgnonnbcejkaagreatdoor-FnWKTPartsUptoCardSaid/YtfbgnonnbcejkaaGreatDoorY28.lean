/- Lemmas on the way to the law FnWKTParts, without conditions beside those that each states: Part of a multi point or a multi line. -/
import Derived.Test.YtfbgnonnbcejkaaGreatDoorY16
import Derived.Test.YtfbgnonnbcejkaaGreatDoorY15
import Derived.Test.YtfbgnonnbcejkaaGreatDoorY26
import Derived.Deep.RegionHeldLaw
import Derived.Deep.RegionLaw
namespace Go.Proofs.YtfbgnonnbcejkaaGreatDoor
open Go.RowKit

theorem run_append_owned_zero {P : Program} {w : World} (base : Nat) (t ty e : TypeId) (i : TypeInfo) (size : Nat) (ht : P.underlying t = some (.slice e)) (hi : P.info? e = some i)
    (v : Value) (n : Nat) (xs : List Value) (hown : w.ownsRow base e size v n xs) (ao : Option Addr) (c : Nat) : (Builtin.append_ #[t, t] ty #[v, .slice ao 0 c]).run P w = .ok v w := by
  rcases hown.2 with ⟨rfl, rfl⟩ | ⟨g, cap, cur, rfl, _, _, hnc, _⟩
  · cases ao <;> simp [Builtin.append_, run_underlying ht, sizeOf, typeInfo, hi, Builtin.lenOf, Builtin.firstCells, loadCells, loadCellsFrom]
  · cases ao <;> simp [Builtin.append_, run_underlying ht, sizeOf, typeInfo, hi, Builtin.lenOf, Builtin.firstCells, hnc, storeCells, loadCells, loadCellsFrom]
/-- 'append([]float64{}, xs...)' as one step of a region that draws. -/
theorem step_append_floats {ops : Array Oper} {o : Oper} {a : Act} {w : World} {K : Act → World → Prop} {Q : Exit → Act → World → Prop} {E : Prop}
    (hg : o.guard = none) (s x : Operand) (hop : o.op = Op.call { callee := Callee.builtin Builtin.append, args := #[s, x], argTypes := #[22, 22] })
    (base g : Nat) (hs : a.eval s = .slice (some ⟨g, 0, none⟩) 0 0) (hgb : w.heap[g]? = some (.cells #[] 151 (0, 0))) (hbase : base ≤ g)
    (S : Nat → Prop) (xs : List Nat) (m c : Nat) (ao : Option Addr) (hx : a.eval x = .slice ao m c) (hf : FloatsIn S w (.slice ao m c) xs)
    (hK : ∀ a' n' m' w', FloatsIn (fun b => base ≤ b ∧ b < w'.heap.size) w' (.slice a' n' m') xs → Below base w w' → (∀ b, b < g → w'.heap[b]? = w.heap[b]?) → K (a.put o.dst (.slice a' n' m')) w') :
    if Region.wanted o (yielded ops a.tmps) = true then Oper.wp Tryz.prog o a w K Q else E := by
  obtain ⟨i0, hi, hz0, hz1, hz2⟩ := info_parts infoF
  have hw : Region.wanted o (yielded ops a.tmps) = true := by simp [Region.wanted, hg]
  have hgl : g < w.heap.size := by
    rcases Nat.lt_or_ge g w.heap.size with h' | h'
    · exact h'
    · simp [Array.getElem?_eq_none h'] at hgb
  have hown : w.ownsRow base 151 1 (.slice (some ⟨g, 0, none⟩) 0 0) 0 [] := ⟨rfl, Or.inr ⟨g, 0, #[], rfl, hbase, hgb, Nat.le_refl _, Nat.zero_le _, rfl, rfl⟩⟩
  rw [if_pos hw]
  obtain ⟨ao', c', hv, ⟨hc, hl⟩, hx'⟩ := hf
  cases hv
  rcases Nat.eq_zero_or_pos xs.length with h0 | h0
  · have hnil : xs = [] := List.length_eq_zero_iff.1 h0
    subst hnil
    have hrun := run_append_owned_zero (P := Tryz.prog) (w := w) base 22 o.type 151 i0 1 Tryz.underlying22 hi _ 0 [] hown ao c
    unfold Oper.wp
    simp only [List.length_nil] at hx
    simp [execOp, hop, resolve, invoke, builtin, hs, hx, hrun, Result.andThen]
    exact hK _ _ _ w ⟨_, _, rfl, ⟨Nat.le_refl _, hl⟩, fun hh => absurd hh (by simp)⟩ (Below.refl _ _) (fun _ _ => rfl)
  · obtain ⟨b, oo, rfl, hbK, ha⟩ := hx' h0
    have hcells : ∀ j u, (xs.map (Value.float .f64))[j]? = some u → w.cell? ((⟨b, oo, none⟩ : Addr).add j) = some u := by
      intro j u hu
      have hj : j < xs.length := by simpa using (List.getElem?_eq_some_iff.1 hu).1
      rw [List.getElem?_map, getD_of xs j 0 hj] at hu
      cases hu
      show w.cell? ((⟨b, oo, none⟩ : Addr).add j) = _
      rw [show (⟨b, oo, none⟩ : Addr).add j = ⟨b, oo + j, none⟩ by unfold Addr.add; split <;> simp_all]
      exact (ha j hj).1
    obtain ⟨v', w', hrun, h2, h3, _⟩ := run_append_own (P := Tryz.prog) w base 22 o.type 151 i0 (.float .f64 0) 1 8 Tryz.underlying22 hi hz0 hz1 hz2 rfl (by decide) _ 0 [] hown ⟨b, oo, none⟩ xs.length c (xs.map (Value.float .f64)) (by simp) hcells (by intro u hu; obtain ⟨x, _, rfl⟩ := List.mem_map.1 hu; rfl) (by unfold maxLen; omega) (by omega) (Nat.le_trans hbase (Nat.le_of_lt hgl))
    rw [Nat.zero_add, List.nil_append] at h2
    obtain ⟨g2, c2, rfl, _, _, _, _⟩ := owns_cell h2 h0
    unfold Oper.wp
    simp [execOp, hop, resolve, invoke, builtin, hs, hx, hrun, Result.andThen]
    refine hK _ _ _ w' (slIn_owns h2 hl _ ?_) ((Below.refl base w).grown h3 (Nat.le_trans hbase (Nat.le_of_lt hgl)) (fun k hk => (hown.lt k hk).1)) (fun b hb => h3.block b (Nat.lt_trans hb hgl) (by simp [Value.ownBlock]; omega))
    intro j g' hj hu _ _
    exact ⟨hu _ (by rw [List.getElem?_map, getD_of xs j 0 hj]; rfl), (ha j hj).2⟩
/-- The same where nothing is appended. -/
theorem step_append_none {ops : Array Oper} {o : Oper} {a : Act} {w : World} {K : Act → World → Prop} {Q : Exit → Act → World → Prop} {E : Prop}
    (hg : o.guard = none) (s x : Operand) (hop : o.op = Op.call { callee := Callee.builtin Builtin.append, args := #[s, x], argTypes := #[22, 22] })
    (base g : Nat) (hs : a.eval s = .slice (some ⟨g, 0, none⟩) 0 0) (hgb : w.heap[g]? = some (.cells #[] 151 (0, 0))) (hbase : base ≤ g)
    (xs : List Nat) (hxs : xs = []) (hx : ∃ ao m c, a.eval x = .slice ao m c ∧ m = 0)
    (hK : ∀ a' n' m' w', FloatsIn (fun b => base ≤ b ∧ b < w'.heap.size) w' (.slice a' n' m') xs → Below base w w' → (∀ b, b < g → w'.heap[b]? = w.heap[b]?) → K (a.put o.dst (.slice a' n' m')) w') :
    if Region.wanted o (yielded ops a.tmps) = true then Oper.wp Tryz.prog o a w K Q else E := by
  obtain ⟨ao, m, c, hx, rfl⟩ := hx
  subst hxs
  exact step_append_floats (Q := Q) hg s x hop base g hs hgb hbase (fun _ => True) [] 0 (c + 0) ao hx ⟨_, _, rfl, ⟨Nat.zero_le _, Nat.zero_le _⟩, fun hh => absurd hh (by simp)⟩ hK
/-- A slice of a row of numbers, empty ones too. -/
theorem floats_cut {S : Nat → Prop} {w : World} {v : Value} {xs : List Nat} (h : FloatsIn S w v xs) : ∃ ao c, v = .slice ao xs.length c ∧ xs.length ≤ c ∧ xs.length ≤ 1048576 ∧ (0 < xs.length → ∃ b o, ao = some ⟨b, o, none⟩ ∧ S b ∧ ∀ j, j < xs.length → w.cell? ⟨b, o + j, none⟩ = some (.float .f64 (xs.getD j 0)) ∧ xs.getD j 0 < 18446744073709551616) := by
  obtain ⟨ao, c, h1, ⟨h2, h3⟩, h4⟩ := h
  exact ⟨ao, c, h1, h2, h3, h4⟩

theorem set7 {w : World} {N b o : Nat} {v v0 v1 v2 v3 v4 v5 v6 : Value} (hb : b ≠ N) (h : w.cell? ⟨b, o, none⟩ = some v) :
    (((((((w.setCell ⟨N, 0, none⟩ v0).setCell ⟨N, 1, none⟩ v1).setCell ⟨N, 2, none⟩ v2).setCell ⟨N, 3, none⟩ v3).setCell ⟨N, 4, none⟩ v4).setCell ⟨N, 5, none⟩ v5).setCell ⟨N, 6, none⟩ v6).cell? ⟨b, o, none⟩ = some v := by
  refine (World.cell?_of_block (a := ⟨b, o, none⟩) ?_).trans h
  show _ = w.heap[b]?
  rw [Below.heap_setCell _ _ _ _ hb, Below.heap_setCell _ _ _ _ hb, Below.heap_setCell _ _ _ _ hb, Below.heap_setCell _ _ _ _ hb, Below.heap_setCell _ _ _ _ hb, Below.heap_setCell _ _ _ _ hb, Below.heap_setCell _ _ _ _ hb]
theorem set7_heap (w : World) (N : Nat) (v0 v1 v2 v3 v4 v5 v6 : Value) :
    (∀ b, b ≠ N → (((((((w.setCell ⟨N, 0, none⟩ v0).setCell ⟨N, 1, none⟩ v1).setCell ⟨N, 2, none⟩ v2).setCell ⟨N, 3, none⟩ v3).setCell ⟨N, 4, none⟩ v4).setCell ⟨N, 5, none⟩ v5).setCell ⟨N, 6, none⟩ v6).heap[b]? = w.heap[b]?) ∧
    (((((((w.setCell ⟨N, 0, none⟩ v0).setCell ⟨N, 1, none⟩ v1).setCell ⟨N, 2, none⟩ v2).setCell ⟨N, 3, none⟩ v3).setCell ⟨N, 4, none⟩ v4).setCell ⟨N, 5, none⟩ v5).setCell ⟨N, 6, none⟩ v6).heap.size = w.heap.size := by
  refine ⟨fun b hb => ?_, by simp [World.setCell]⟩
  rw [Below.heap_setCell _ _ _ _ hb, Below.heap_setCell _ _ _ _ hb, Below.heap_setCell _ _ _ _ hb, Below.heap_setCell _ _ _ _ hb, Below.heap_setCell _ _ _ _ hb, Below.heap_setCell _ _ _ _ hb, Below.heap_setCell _ _ _ _ hb]
theorem set7_below {B N : Nat} {w w' : World} (h : Below B w w') (hN : B ≤ N) (v0 v1 v2 v3 v4 v5 v6 : Value) :
    Below B w (((((((w'.setCell ⟨N, 0, none⟩ v0).setCell ⟨N, 1, none⟩ v1).setCell ⟨N, 2, none⟩ v2).setCell ⟨N, 3, none⟩ v3).setCell ⟨N, 4, none⟩ v4).setCell ⟨N, 5, none⟩ v5).setCell ⟨N, 6, none⟩ v6) :=
  ((((((h.setCell (p := ⟨N, 0, none⟩) hN _).setCell (p := ⟨N, 1, none⟩) hN _).setCell (p := ⟨N, 2, none⟩) hN _).setCell (p := ⟨N, 3, none⟩) hN _).setCell (p := ⟨N, 4, none⟩) hN _).setCell (p := ⟨N, 5, none⟩) hN _).setCell (p := ⟨N, 6, none⟩) hN _
/-- What the part's seven values are, when they have been laid into the result's block. -/
theorem part_end {B N M : Nat} {w' : World} {k l : Int} {f : List Nat} {a : Option Addr} {n m : Nat} (hN : B ≤ N) (hM : N < M) (hk : I64 k) (hl : I64 l) (hf : FloatsIn (fun b => M ≤ b ∧ b < w'.heap.size) w' (.slice a n m) f) (v0 v1 v2 v3 v4 v5 v6 : Value) :
    PartP (fun b => B ≤ b ∧ b < (((((((w'.setCell ⟨N, 0, none⟩ v0).setCell ⟨N, 1, none⟩ v1).setCell ⟨N, 2, none⟩ v2).setCell ⟨N, 3, none⟩ v3).setCell ⟨N, 4, none⟩ v4).setCell ⟨N, 5, none⟩ v5).setCell ⟨N, 6, none⟩ v6).heap.size)
      (((((((w'.setCell ⟨N, 0, none⟩ v0).setCell ⟨N, 1, none⟩ v1).setCell ⟨N, 2, none⟩ v2).setCell ⟨N, 3, none⟩ v3).setCell ⟨N, 4, none⟩ v4).setCell ⟨N, 5, none⟩ v5).setCell ⟨N, 6, none⟩ v6)
      [.int .i64 k, .int .i64 l, .int .i64 0, .slice a n m, .slice none 0 0, .slice none 0 0, .slice none 0 0] (.mk k l 0 f [] [] []) := by
  obtain ⟨h1, h2⟩ := set7_heap w' N v0 v1 v2 v3 v4 v5 v6
  refine Or.inr ⟨k, l, f, [], rfl, _, _, rfl, hk, hl, ?_, ⟨none, 0, rfl, ⟨Nat.le_refl _, Nat.zero_le _⟩, fun hh => absurd hh (by simp)⟩⟩
  rw [h2]
  exact (hf.keep (fun b hb => h1 b (by omega))).mono (fun b hb => ⟨by omega, hb.2⟩)
theorem zfacts {w' : World} {N : Nat} (hz : w'.heap[N]? = some (.cells #[.int .i64 0, .int .i64 0, .int .i64 0, .slice none 0 0, .slice none 0 0, .slice none 0 0, .slice none 0 0] 27 (0, 0))) : w'.cell? ⟨N, 0, none⟩ = some (.int .i64 0) ∧ w'.cell? ⟨N, 1, none⟩ = some (.int .i64 0) ∧ w'.cell? ⟨N, 2, none⟩ = some (.int .i64 0) ∧ w'.cell? ⟨N, 3, none⟩ = some (.slice none 0 0) ∧ w'.cell? ⟨N, 4, none⟩ = some (.slice none 0 0) ∧ w'.cell? ⟨N, 5, none⟩ = some (.slice none 0 0) ∧ w'.cell? ⟨N, 6, none⟩ = some (.slice none 0 0) ∧ w'.frozen? ⟨N, 0, none⟩ = false ∧ w'.frozen? ⟨N, 1, none⟩ = false ∧ w'.frozen? ⟨N, 2, none⟩ = false ∧ w'.frozen? ⟨N, 3, none⟩ = false ∧ w'.frozen? ⟨N, 4, none⟩ = false ∧ w'.frozen? ⟨N, 5, none⟩ = false ∧ w'.frozen? ⟨N, 6, none⟩ = false := by
  refine ⟨?_, ?_, ?_, ?_, ?_, ?_, ?_, ?_, ?_, ?_, ?_, ?_, ?_, ?_⟩
  · rw [Lib.cell_of_heap hz]; rfl
  · rw [Lib.cell_of_heap hz]; rfl
  · rw [Lib.cell_of_heap hz]; rfl
  · rw [Lib.cell_of_heap hz]; rfl
  · rw [Lib.cell_of_heap hz]; rfl
  · rw [Lib.cell_of_heap hz]; rfl
  · rw [Lib.cell_of_heap hz]; rfl
  · exact Lib.frozen_of_heap hz 0
  · exact Lib.frozen_of_heap hz 1
  · exact Lib.frozen_of_heap hz 2
  · exact Lib.frozen_of_heap hz 3
  · exact Lib.frozen_of_heap hz 4
  · exact Lib.frozen_of_heap hz 5
  · exact Lib.frozen_of_heap hz 6

set_option maxHeartbeats 2000000 in
set_option maxRecDepth 100000 in
theorem partE_c (K : Nat) (w : World) (vs : List Value) (k l s : Int) (f : List Nat) (e : List Int) (ee : List (List Int)) (kids : List Geo) (hk : k = 4 ∨ k = 5) (hv : GeoVs K w vs (.mk k l s f e ee kids)) (hK : K ≤ w.heap.size) (i : Nat) (hi : i < e.length) (a y : Nat)
    (ha0 : i = 0 → a = 0) (ha1 : 0 < i → e.getD (i - 1) 0 = (a : Int)) (hy : e.getD i 0 = (y : Int)) (hay : a ≤ y) (hyf : y ≤ f.length) :
    Calls Tryz.prog 15 #[.agg vs.toArray, .int .i64 i] w fun en w' => ∃ us, en = .returned (.agg us.toArray) ∧ PartP (fun b => w.heap.size ≤ b ∧ b < w'.heap.size) w' us (.mk (k - 3) l 0 (cutF f a y) [] [] []) ∧ Below w.heap.size w w' := by
  have hkid : Hid (∀ w', Calls Tryz.prog 24 #[.int .i64 k] w' fun e w'' => e = .returned (.int .i64 (k - 3)) ∧ w' = w'') := Lib.hid fun w' => by
    have := kidOf_c k w'
    rw [show kidOfF k = k - 3 from if_pos (by omega)] at this
    exact this
  have k3 : (k == 3) = false := by rw [beq_eq_false_iff_ne]; omega
  have k3' : (k != 3) = true := by rw [bne_iff_ne]; omega
  have k6 : (k == 6) = false := by rw [beq_eq_false_iff_ne]; omega
  have k7 : (k == 7) = false := by rw [beq_eq_false_iff_ne]; omega
  have hk64 : I64 (k - 3) := ⟨by omega, by omega⟩
  have hepos : 0 < e.length := Nat.lt_of_le_of_lt (Nat.zero_le _) hi
  clear hk
  obtain ⟨vf, ve, vee, vk, rfl, h1, h2, h3, h4, h5, h6, ao, c, rfl, ⟨h8, hkl⟩, b, o, h9, h10⟩ := hv
  clear h9 h10
  have h4i := h4.toIn
  obtain ⟨a3, c3, rfl, ⟨hc3, hl3⟩, hx3⟩ := h4
  clear hx3
  obtain ⟨a4, c4, rfl, ⟨hc4, hl4⟩, hx4⟩ := h5
  obtain ⟨a5, c5, rfl, ⟨hc5, hl5⟩, hx5⟩ := h6
  clear hx5
  obtain ⟨b4, o4, rfl, hbK4, he4⟩ := hx4 hepos
  clear hx4
  have hcell0 : 0 < i → w.cell? ⟨b4, o4 + (i - 1), none⟩ = some (.int .i64 a) := fun h0 => by
    have := (he4 (i - 1) (by omega)).1
    rw [Nat.mul_one, ha1 h0] at this
    exact this
  have hcell1 : w.cell? ⟨b4, o4 + i, none⟩ = some (.int .i64 y) := by
    have := (he4 i hi).1
    rw [Nat.mul_one, hy] at this
    exact this
  have hb4 : b4 < w.heap.size := Nat.lt_of_lt_of_le hbK4 hK
  have Hc0 := Lib.hid hcell0
  have H4 := Lib.hid h4i
  have Ha0 := Lib.hid ha0
  have Hl := Lib.hid h2
  clear h1 h2 h3 he4 h4i hcell0 ha0 ha1 hy
  generalize hnfe : f.length = nf at *
  have Hnf := Lib.hid hnfe
  clear hnfe
  generalize kids.length = nk at *
  generalize ee.length = nee at *
  generalize e.length = ne at *
  go_enter Tryz.func15, Tryz.ntmps15
  by_cases hi0 : i = 0
  · have haz := Ha0.out hi0
    subst hi0 haz
    have hcell1' : w.cell? ⟨b4, o4, none⟩ = some (.int .i64 y) := hcell1
    go_upto_region 27 with (go_at_call 24; refine (hkid.out _).mono ?_; rintro e w3 ⟨rfl, rfl⟩)
    have hq : Below w.heap.size w ((w.alloc (.cells #[.int .i64 k, .int .i64 l, .int .i64 s, .slice a3 nf c3, .slice (some ⟨b4, o4, none⟩) ne c4, .slice a5 nee c5, .slice ao nk c] 27)).alloc (.cells #[.int .i64 0, .int .i64 0, .int .i64 0, .slice none 0 0, .slice none 0 0, .slice none 0 0, .slice none 0 0] 27)) := ((Below.refl _ w).alloc (Nat.le_refl _) _).alloc (by rw [World.size_alloc]; omega) _
    have hqs : ((w.alloc (.cells #[.int .i64 k, .int .i64 l, .int .i64 s, .slice a3 nf c3, .slice (some ⟨b4, o4, none⟩) ne c4, .slice a5 nee c5, .slice ao nk c] 27)).alloc (.cells #[.int .i64 0, .int .i64 0, .int .i64 0, .slice none 0 0, .slice none 0 0, .slice none 0 0, .slice none 0 0] 27)).heap.size = w.heap.size + 2 := by rw [World.size_alloc, World.size_alloc]
    have hqb : ((w.alloc (.cells #[.int .i64 k, .int .i64 l, .int .i64 s, .slice a3 nf c3, .slice (some ⟨b4, o4, none⟩) ne c4, .slice a5 nee c5, .slice ao nk c] 27)).alloc (.cells #[.int .i64 0, .int .i64 0, .int .i64 0, .slice none 0 0, .slice none 0 0, .slice none 0 0, .slice none 0 0] 27)).heap[w.heap.size]? = some (.cells #[.int .i64 k, .int .i64 l, .int .i64 s, .slice a3 nf c3, .slice (some ⟨b4, o4, none⟩) ne c4, .slice a5 nee c5, .slice ao nk c] 27 (0, 0)) := (Lib.alloc_old _ _ _ (by rw [World.size_alloc]; omega)).trans (heap_alloc_new w _)
    have hqz : ((w.alloc (.cells #[.int .i64 k, .int .i64 l, .int .i64 s, .slice a3 nf c3, .slice (some ⟨b4, o4, none⟩) ne c4, .slice a5 nee c5, .slice ao nk c] 27)).alloc (.cells #[.int .i64 0, .int .i64 0, .int .i64 0, .slice none 0 0, .slice none 0 0, .slice none 0 0, .slice none 0 0] 27)).heap[w.heap.size + 1]? = some (.cells #[.int .i64 0, .int .i64 0, .int .i64 0, .slice none 0 0, .slice none 0 0, .slice none 0 0, .slice none 0 0] 27 (0, 0)) := by
      have := heap_alloc_new (w.alloc (.cells #[.int .i64 k, .int .i64 l, .int .i64 s, .slice a3 nf c3, .slice (some ⟨b4, o4, none⟩) ne c4, .slice a5 nee c5, .slice ao nk c] 27)) (.cells #[.int .i64 0, .int .i64 0, .int .i64 0, .slice none 0 0, .slice none 0 0, .slice none 0 0, .slice none 0 0] 27)
      rw [World.size_alloc] at this
      exact this
    generalize ((w.alloc (.cells #[.int .i64 k, .int .i64 l, .int .i64 s, .slice a3 nf c3, .slice (some ⟨b4, o4, none⟩) ne c4, .slice a5 nee c5, .slice ao nk c] 27)).alloc (.cells #[.int .i64 0, .int .i64 0, .int .i64 0, .slice none 0 0, .slice none 0 0, .slice none 0 0, .slice none 0 0] 27)) = w2 at *
    have x1 : w2.cell? ⟨w.heap.size, 1, none⟩ = some (.int .i64 l) := by rw [Lib.cell_of_heap hqb]; rfl
    have x3 : w2.cell? ⟨w.heap.size, 3, none⟩ = some (.slice a3 nf c3) := by rw [Lib.cell_of_heap hqb]; rfl
    have x4 : w2.cell? ⟨w.heap.size, 4, none⟩ = some (.slice (some ⟨b4, o4, none⟩) ne c4) := by rw [Lib.cell_of_heap hqb]; rfl
    have xe : w2.cell? ⟨b4, o4, none⟩ = some (.int .i64 y) := keeps_below_cell hq hb4 hcell1'
    have hlt1 : w.heap.size < w2.heap.size := by omega
    have hlt2 : b4 < w2.heap.size := by omega
    have hlt3 : w.heap.size + 1 < w2.heap.size := by omega
    have hal : Below w2.heap.size w2 (w2.alloc (.cells #[] 151)) := (Below.refl _ w2).alloc (Nat.le_refl _) _
    have y1 := keeps_below_cell hal hlt1 x1
    have y3 := keeps_below_cell hal hlt1 x3
    have y4 := keeps_below_cell hal hlt1 x4
    have ye := keeps_below_cell hal hlt2 xe
    have hgb : (w2.alloc (.cells #[] 151)).drew.heap[w2.heap.size]? = some (.cells #[] 151 (0, 0)) := heap_alloc_new w2 _
    have hz1 : (w2.alloc (.cells #[] 151)).drew.heap[w.heap.size + 1]? = some (.cells #[.int .i64 0, .int .i64 0, .int .i64 0, .slice none 0 0, .slice none 0 0, .slice none 0 0, .slice none 0 0] 27 (0, 0)) := (hal.block _ hlt3).trans hqz
    have Hz1 := Lib.hid hz1
    clear hz1
    have Hgb := Lib.hid hgb
    have Hal := Lib.hid hal
    have Hq := Lib.hid hq
    have Hqb := Lib.hid hqb
    have Hqz := Lib.hid hqz
    have Hqs := Lib.hid hqs
    have Y : Hid ((w2.alloc (.cells #[] 151)).drew.cell? ⟨w.heap.size, 1, none⟩ = some (.int .i64 l) ∧ (w2.alloc (.cells #[] 151)).drew.cell? ⟨w.heap.size, 3, none⟩ = some (.slice a3 nf c3) ∧ (w2.alloc (.cells #[] 151)).drew.cell? ⟨w.heap.size, 4, none⟩ = some (.slice (some ⟨b4, o4, none⟩) ne c4) ∧ (w2.alloc (.cells #[] 151)).drew.cell? ⟨b4, o4, none⟩ = some (.int .i64 y)) := Lib.hid (And.intro y1 (And.intro y3 (And.intro y4 ye)))
    have X : Hid (w2.drew.cell? ⟨w.heap.size, 1, none⟩ = some (.int .i64 l) ∧ w2.drew.cell? ⟨w.heap.size, 3, none⟩ = some (.slice a3 nf c3) ∧ w2.drew.cell? ⟨w.heap.size, 4, none⟩ = some (.slice (some ⟨b4, o4, none⟩) ne c4) ∧ w2.drew.cell? ⟨b4, o4, none⟩ = some (.int .i64 y)) := Lib.hid (And.intro x1 (And.intro x3 (And.intro x4 xe)))
    clear hq hqb hqz hqs hgb hal
    have hyc : y ≤ c3 := by omega
    rcases Nat.eq_zero_or_pos nf with hnf | hnf
    · have hy0 : y = 0 := by omega
      have hce : cutF f 0 y = [] := by unfold cutF; subst hy0; simp
      have Hce := Lib.hid hce
      have Hy0 := Lib.hid hy0
      clear hce hy0 hnf y1 y3 y4 ye x1 x3 x4 xe
      rcases a3 with _ | A0
      · skip
        go_region_held_law (fun w' => w'.cell? ⟨w.heap.size, 1, none⟩ = some (.int .i64 l) ∧ w'.cell? ⟨w.heap.size, 3, none⟩ = some (.slice (none) nf c3) ∧ w'.cell? ⟨w.heap.size, 4, none⟩ = some (.slice (some ⟨b4, o4, none⟩) ne c4) ∧ w'.cell? ⟨b4, o4, none⟩ = some (.int .i64 y)) (first | (with_reducible exact X.out) | (with_reducible exact Y.out) | (with_reducible exact E.out) | (with_reducible exact ⟨set7 (by omega) E.out.1, set7 (by omega) E.out.2.1, set7 (by omega) E.out.2.2.1, set7 (by omega) E.out.2.2.2⟩))
          (first | (refine step_append_none rfl (.tmp 94) (.tmp 103) rfl w2.heap.size w2.heap.size (by simp [Act.eval]) Hgb.out (Nat.le_refl _) (cutF f 0 y) Hce.out ⟨_, _, _, rfl, by have := Hy0.out; omega⟩ ?_; intro a' n' m' w' hfl hbl hold; obtain ⟨z0, z1, z2, z3, z4, z5, z6, f0, f1, f2, f3, f4, f5, f6⟩ := zfacts ((hold _ hlt3).trans Hz1.out); have E : Hid (w'.cell? ⟨w.heap.size, 1, none⟩ = some (.int .i64 l) ∧ w'.cell? ⟨w.heap.size, 3, none⟩ = some (.slice (none) nf c3) ∧ w'.cell? ⟨w.heap.size, 4, none⟩ = some (.slice (some ⟨b4, o4, none⟩) ne c4) ∧ w'.cell? ⟨b4, o4, none⟩ = some (.int .i64 y)) := Lib.hid ⟨(World.cell?_of_block (a := ⟨_, _, none⟩) (hold _ hlt1)).trans Y.out.1, (World.cell?_of_block (a := ⟨_, _, none⟩) (hold _ hlt1)).trans Y.out.2.1, (World.cell?_of_block (a := ⟨_, _, none⟩) (hold _ hlt1)).trans Y.out.2.2.1, (World.cell?_of_block (a := ⟨_, _, none⟩) (hold _ hlt2)).trans Y.out.2.2.2⟩))
        go_wp2
        all_goals
          refine bodyPost_ret (v := .agg #[.int .i64 (k - 3), .int .i64 l, .int .i64 0, .slice a' n' m', .slice none 0 0, .slice none 0 0, .slice none 0 0]) ?_ rfl ?_
          · simp [results, Tryz.results15, go_sem, z0, z1, z2, z3, z4, z5, z6]
          · have hbw : Below w.heap.size w w' := (Hq.out.trans ((Hal.out.mono (by omega)).drew)).trans (hbl.mono (by omega))
            exact ⟨_, rfl, part_end (Nat.le_succ _) hlt3 hk64 Hl.out hfl _ _ _ _ _ _ _, set7_below hbw (Nat.le_succ _) _ _ _ _ _ _ _⟩
      · skip
        go_region_held_law (fun w' => w'.cell? ⟨w.heap.size, 1, none⟩ = some (.int .i64 l) ∧ w'.cell? ⟨w.heap.size, 3, none⟩ = some (.slice (some A0) nf c3) ∧ w'.cell? ⟨w.heap.size, 4, none⟩ = some (.slice (some ⟨b4, o4, none⟩) ne c4) ∧ w'.cell? ⟨b4, o4, none⟩ = some (.int .i64 y)) (first | (with_reducible exact X.out) | (with_reducible exact Y.out) | (with_reducible exact E.out) | (with_reducible exact ⟨set7 (by omega) E.out.1, set7 (by omega) E.out.2.1, set7 (by omega) E.out.2.2.1, set7 (by omega) E.out.2.2.2⟩))
          (first | (refine step_append_none rfl (.tmp 94) (.tmp 103) rfl w2.heap.size w2.heap.size (by simp [Act.eval]) Hgb.out (Nat.le_refl _) (cutF f 0 y) Hce.out ⟨_, _, _, rfl, by have := Hy0.out; omega⟩ ?_; intro a' n' m' w' hfl hbl hold; obtain ⟨z0, z1, z2, z3, z4, z5, z6, f0, f1, f2, f3, f4, f5, f6⟩ := zfacts ((hold _ hlt3).trans Hz1.out); have E : Hid (w'.cell? ⟨w.heap.size, 1, none⟩ = some (.int .i64 l) ∧ w'.cell? ⟨w.heap.size, 3, none⟩ = some (.slice (some A0) nf c3) ∧ w'.cell? ⟨w.heap.size, 4, none⟩ = some (.slice (some ⟨b4, o4, none⟩) ne c4) ∧ w'.cell? ⟨b4, o4, none⟩ = some (.int .i64 y)) := Lib.hid ⟨(World.cell?_of_block (a := ⟨_, _, none⟩) (hold _ hlt1)).trans Y.out.1, (World.cell?_of_block (a := ⟨_, _, none⟩) (hold _ hlt1)).trans Y.out.2.1, (World.cell?_of_block (a := ⟨_, _, none⟩) (hold _ hlt1)).trans Y.out.2.2.1, (World.cell?_of_block (a := ⟨_, _, none⟩) (hold _ hlt2)).trans Y.out.2.2.2⟩))
        go_wp2
        all_goals
          refine bodyPost_ret (v := .agg #[.int .i64 (k - 3), .int .i64 l, .int .i64 0, .slice a' n' m', .slice none 0 0, .slice none 0 0, .slice none 0 0]) ?_ rfl ?_
          · simp [results, Tryz.results15, go_sem, z0, z1, z2, z3, z4, z5, z6]
          · have hbw : Below w.heap.size w w' := (Hq.out.trans ((Hal.out.mono (by omega)).drew)).trans (hbl.mono (by omega))
            exact ⟨_, rfl, part_end (Nat.le_succ _) hlt3 hk64 Hl.out hfl _ _ _ _ _ _ _, set7_below hbw (Nat.le_succ _) _ _ _ _ _ _ _⟩
    · obtain ⟨bx, ox, rfl, hbxK, hax⟩ : ∃ b o, a3 = some ⟨b, o, none⟩ ∧ b < K ∧ ∀ j, j < f.length → w.cell? ⟨b, o + j, none⟩ = some (.float .f64 (f.getD j 0)) ∧ f.getD j 0 < 18446744073709551616 := by
        obtain ⟨ao', c', hv, _, hx'⟩ := H4.out
        cases hv
        obtain ⟨b, o, h1, h2, h3⟩ := hx' (by have := Hnf.out; omega)
        cases h1
        exact ⟨b, o, rfl, h2, h3⟩
      have hcut : cutF f 0 y = (f.drop 0).take (y - 0) := by unfold cutF; simp <;> omega
      have hkw : Keeps (· < K) w (w2.alloc (.cells #[] 151)).drew := fun b hb => (Hal.out.block b (by omega)).trans (Hq.out.block b (by omega))
      have HfA : Hid (FloatsIn (· < K) (w2.alloc (.cells #[] 151)).drew (.slice (some (⟨bx, ox, none⟩ : Addr)) y c3) (cutF f 0 y)) := Lib.hid (by
        rw [hcut]
        have hlen : ((f.drop 0).take (y - 0)).length = y - 0 := by rw [List.length_take, List.length_drop, Hnf.out]; omega
        refine FloatsIn.keep ?_ hkw
        unfold FloatsIn
        rw [hlen]
        refine ⟨_, _, rfl, ⟨by omega, by omega⟩, fun hpos => ⟨bx, ox + 0, ?_, hbxK, fun j hj => ?_⟩⟩
        · rfl
        · show w.cell? ⟨bx, ox + 0 + j, none⟩ = _ ∧ _
          rw [getD_sub f 0 (y - 0) j hj, Nat.add_assoc]
          exact hax (0 + j) (by rw [Hnf.out]; omega))
      have HfB := HfA
      clear hcut hkw hax y1 y3 y4 ye x1 x3 x4 xe
      go_region_held_law (fun w' => w'.cell? ⟨w.heap.size, 1, none⟩ = some (.int .i64 l) ∧ w'.cell? ⟨w.heap.size, 3, none⟩ = some (.slice (some ⟨bx, ox, none⟩) nf c3) ∧ w'.cell? ⟨w.heap.size, 4, none⟩ = some (.slice (some ⟨b4, o4, none⟩) ne c4) ∧ w'.cell? ⟨b4, o4, none⟩ = some (.int .i64 y)) (first | (with_reducible exact X.out) | (with_reducible exact Y.out) | (with_reducible exact E.out) | (with_reducible exact ⟨set7 (by omega) E.out.1, set7 (by omega) E.out.2.1, set7 (by omega) E.out.2.2.1, set7 (by omega) E.out.2.2.2⟩))
        (first | (refine step_append_floats rfl (.tmp 94) (.tmp 103) rfl w2.heap.size w2.heap.size (by simp [Act.eval]) Hgb.out (Nat.le_refl _) (· < K) (cutF f 0 y) y c3 (some ⟨bx, ox, none⟩) (by simp [Act.eval]) (by first | exact HfA.out | exact HfB.out) ?_; intro a' n' m' w' hfl hbl hold; obtain ⟨z0, z1, z2, z3, z4, z5, z6, f0, f1, f2, f3, f4, f5, f6⟩ := zfacts ((hold _ hlt3).trans Hz1.out); have E : Hid (w'.cell? ⟨w.heap.size, 1, none⟩ = some (.int .i64 l) ∧ w'.cell? ⟨w.heap.size, 3, none⟩ = some (.slice (some ⟨bx, ox, none⟩) nf c3) ∧ w'.cell? ⟨w.heap.size, 4, none⟩ = some (.slice (some ⟨b4, o4, none⟩) ne c4) ∧ w'.cell? ⟨b4, o4, none⟩ = some (.int .i64 y)) := Lib.hid ⟨(World.cell?_of_block (a := ⟨_, _, none⟩) (hold _ hlt1)).trans Y.out.1, (World.cell?_of_block (a := ⟨_, _, none⟩) (hold _ hlt1)).trans Y.out.2.1, (World.cell?_of_block (a := ⟨_, _, none⟩) (hold _ hlt1)).trans Y.out.2.2.1, (World.cell?_of_block (a := ⟨_, _, none⟩) (hold _ hlt2)).trans Y.out.2.2.2⟩))
      go_wp2
      all_goals
        refine bodyPost_ret (v := .agg #[.int .i64 (k - 3), .int .i64 l, .int .i64 0, .slice a' n' m', .slice none 0 0, .slice none 0 0, .slice none 0 0]) ?_ rfl ?_
        · simp [results, Tryz.results15, go_sem, z0, z1, z2, z3, z4, z5, z6]
        · have hbw : Below w.heap.size w w' := (Hq.out.trans ((Hal.out.mono (by omega)).drew)).trans (hbl.mono (by omega))
          exact ⟨_, rfl, part_end (Nat.le_succ _) hlt3 hk64 Hl.out hfl _ _ _ _ _ _ _, set7_below hbw (Nat.le_succ _) _ _ _ _ _ _ _⟩
  · have hip : 0 < i := Nat.pos_of_ne_zero hi0
    have hcell0 := Hc0.out hip
    have hi1 : ((i : Int) - 1) = ((i - 1 : Nat) : Int) := by omega
    go_upto_region 27 with (go_at_call 24; refine (hkid.out _).mono ?_; rintro e w3 ⟨rfl, rfl⟩)
    have hq : Below w.heap.size w ((w.alloc (.cells #[.int .i64 k, .int .i64 l, .int .i64 s, .slice a3 nf c3, .slice (some ⟨b4, o4, none⟩) ne c4, .slice a5 nee c5, .slice ao nk c] 27)).alloc (.cells #[.int .i64 0, .int .i64 0, .int .i64 0, .slice none 0 0, .slice none 0 0, .slice none 0 0, .slice none 0 0] 27)) := ((Below.refl _ w).alloc (Nat.le_refl _) _).alloc (by rw [World.size_alloc]; omega) _
    have hqs : ((w.alloc (.cells #[.int .i64 k, .int .i64 l, .int .i64 s, .slice a3 nf c3, .slice (some ⟨b4, o4, none⟩) ne c4, .slice a5 nee c5, .slice ao nk c] 27)).alloc (.cells #[.int .i64 0, .int .i64 0, .int .i64 0, .slice none 0 0, .slice none 0 0, .slice none 0 0, .slice none 0 0] 27)).heap.size = w.heap.size + 2 := by rw [World.size_alloc, World.size_alloc]
    have hqb : ((w.alloc (.cells #[.int .i64 k, .int .i64 l, .int .i64 s, .slice a3 nf c3, .slice (some ⟨b4, o4, none⟩) ne c4, .slice a5 nee c5, .slice ao nk c] 27)).alloc (.cells #[.int .i64 0, .int .i64 0, .int .i64 0, .slice none 0 0, .slice none 0 0, .slice none 0 0, .slice none 0 0] 27)).heap[w.heap.size]? = some (.cells #[.int .i64 k, .int .i64 l, .int .i64 s, .slice a3 nf c3, .slice (some ⟨b4, o4, none⟩) ne c4, .slice a5 nee c5, .slice ao nk c] 27 (0, 0)) := (Lib.alloc_old _ _ _ (by rw [World.size_alloc]; omega)).trans (heap_alloc_new w _)
    have hqz : ((w.alloc (.cells #[.int .i64 k, .int .i64 l, .int .i64 s, .slice a3 nf c3, .slice (some ⟨b4, o4, none⟩) ne c4, .slice a5 nee c5, .slice ao nk c] 27)).alloc (.cells #[.int .i64 0, .int .i64 0, .int .i64 0, .slice none 0 0, .slice none 0 0, .slice none 0 0, .slice none 0 0] 27)).heap[w.heap.size + 1]? = some (.cells #[.int .i64 0, .int .i64 0, .int .i64 0, .slice none 0 0, .slice none 0 0, .slice none 0 0, .slice none 0 0] 27 (0, 0)) := by
      have := heap_alloc_new (w.alloc (.cells #[.int .i64 k, .int .i64 l, .int .i64 s, .slice a3 nf c3, .slice (some ⟨b4, o4, none⟩) ne c4, .slice a5 nee c5, .slice ao nk c] 27)) (.cells #[.int .i64 0, .int .i64 0, .int .i64 0, .slice none 0 0, .slice none 0 0, .slice none 0 0, .slice none 0 0] 27)
      rw [World.size_alloc] at this
      exact this
    generalize ((w.alloc (.cells #[.int .i64 k, .int .i64 l, .int .i64 s, .slice a3 nf c3, .slice (some ⟨b4, o4, none⟩) ne c4, .slice a5 nee c5, .slice ao nk c] 27)).alloc (.cells #[.int .i64 0, .int .i64 0, .int .i64 0, .slice none 0 0, .slice none 0 0, .slice none 0 0, .slice none 0 0] 27)) = w2 at *
    have x1 : w2.cell? ⟨w.heap.size, 1, none⟩ = some (.int .i64 l) := by rw [Lib.cell_of_heap hqb]; rfl
    have x3 : w2.cell? ⟨w.heap.size, 3, none⟩ = some (.slice a3 nf c3) := by rw [Lib.cell_of_heap hqb]; rfl
    have x4 : w2.cell? ⟨w.heap.size, 4, none⟩ = some (.slice (some ⟨b4, o4, none⟩) ne c4) := by rw [Lib.cell_of_heap hqb]; rfl
    have xe : w2.cell? ⟨b4, o4 + i, none⟩ = some (.int .i64 y) := keeps_below_cell hq hb4 hcell1
    have hlt1 : w.heap.size < w2.heap.size := by omega
    have hlt2 : b4 < w2.heap.size := by omega
    have hlt3 : w.heap.size + 1 < w2.heap.size := by omega
    have hal : Below w2.heap.size w2 (w2.alloc (.cells #[] 151)) := (Below.refl _ w2).alloc (Nat.le_refl _) _
    have y1 := keeps_below_cell hal hlt1 x1
    have y3 := keeps_below_cell hal hlt1 x3
    have y4 := keeps_below_cell hal hlt1 x4
    have ye := keeps_below_cell hal hlt2 xe
    have hgb : (w2.alloc (.cells #[] 151)).drew.heap[w2.heap.size]? = some (.cells #[] 151 (0, 0)) := heap_alloc_new w2 _
    have hz1 : (w2.alloc (.cells #[] 151)).drew.heap[w.heap.size + 1]? = some (.cells #[.int .i64 0, .int .i64 0, .int .i64 0, .slice none 0 0, .slice none 0 0, .slice none 0 0, .slice none 0 0] 27 (0, 0)) := (hal.block _ hlt3).trans hqz
    have Hz1 := Lib.hid hz1
    clear hz1
    have Hgb := Lib.hid hgb
    have Hal := Lib.hid hal
    have Hq := Lib.hid hq
    have Hqb := Lib.hid hqb
    have Hqz := Lib.hid hqz
    have Hqs := Lib.hid hqs
    have Y : Hid ((w2.alloc (.cells #[] 151)).drew.cell? ⟨w.heap.size, 1, none⟩ = some (.int .i64 l) ∧ (w2.alloc (.cells #[] 151)).drew.cell? ⟨w.heap.size, 3, none⟩ = some (.slice a3 nf c3) ∧ (w2.alloc (.cells #[] 151)).drew.cell? ⟨w.heap.size, 4, none⟩ = some (.slice (some ⟨b4, o4, none⟩) ne c4) ∧ (w2.alloc (.cells #[] 151)).drew.cell? ⟨b4, o4 + i, none⟩ = some (.int .i64 y)) := Lib.hid (And.intro y1 (And.intro y3 (And.intro y4 ye)))
    have X : Hid (w2.drew.cell? ⟨w.heap.size, 1, none⟩ = some (.int .i64 l) ∧ w2.drew.cell? ⟨w.heap.size, 3, none⟩ = some (.slice a3 nf c3) ∧ w2.drew.cell? ⟨w.heap.size, 4, none⟩ = some (.slice (some ⟨b4, o4, none⟩) ne c4) ∧ w2.drew.cell? ⟨b4, o4 + i, none⟩ = some (.int .i64 y)) := Lib.hid (And.intro x1 (And.intro x3 (And.intro x4 xe)))
    clear hq hqb hqz hqs hgb hal
    have hyc : y ≤ c3 := by omega
    rcases Nat.eq_zero_or_pos nf with hnf | hnf
    · have hy0 : y = 0 := by omega
      have ha00 : a = 0 := by omega
      have hce : cutF f a y = [] := by unfold cutF; subst hy0 ha00; simp
      have Hce := Lib.hid hce
      have Hy0 := Lib.hid hy0
      clear hce hy0 hnf ha00 y1 y3 y4 ye x1 x3 x4 xe
      rcases a3 with _ | A0
      · skip
        go_region_held_law (fun w' => w'.cell? ⟨w.heap.size, 1, none⟩ = some (.int .i64 l) ∧ w'.cell? ⟨w.heap.size, 3, none⟩ = some (.slice (none) nf c3) ∧ w'.cell? ⟨w.heap.size, 4, none⟩ = some (.slice (some ⟨b4, o4, none⟩) ne c4) ∧ w'.cell? ⟨b4, o4 + i, none⟩ = some (.int .i64 y)) (first | (with_reducible exact X.out) | (with_reducible exact Y.out) | (with_reducible exact E.out) | (with_reducible exact ⟨set7 (by omega) E.out.1, set7 (by omega) E.out.2.1, set7 (by omega) E.out.2.2.1, set7 (by omega) E.out.2.2.2⟩))
          (first | (refine step_append_none rfl (.tmp 94) (.tmp 103) rfl w2.heap.size w2.heap.size (by simp [Act.eval]) Hgb.out (Nat.le_refl _) (cutF f a y) Hce.out ⟨_, _, _, rfl, by have := Hy0.out; omega⟩ ?_; intro a' n' m' w' hfl hbl hold; obtain ⟨z0, z1, z2, z3, z4, z5, z6, f0, f1, f2, f3, f4, f5, f6⟩ := zfacts ((hold _ hlt3).trans Hz1.out); have E : Hid (w'.cell? ⟨w.heap.size, 1, none⟩ = some (.int .i64 l) ∧ w'.cell? ⟨w.heap.size, 3, none⟩ = some (.slice (none) nf c3) ∧ w'.cell? ⟨w.heap.size, 4, none⟩ = some (.slice (some ⟨b4, o4, none⟩) ne c4) ∧ w'.cell? ⟨b4, o4 + i, none⟩ = some (.int .i64 y)) := Lib.hid ⟨(World.cell?_of_block (a := ⟨_, _, none⟩) (hold _ hlt1)).trans Y.out.1, (World.cell?_of_block (a := ⟨_, _, none⟩) (hold _ hlt1)).trans Y.out.2.1, (World.cell?_of_block (a := ⟨_, _, none⟩) (hold _ hlt1)).trans Y.out.2.2.1, (World.cell?_of_block (a := ⟨_, _, none⟩) (hold _ hlt2)).trans Y.out.2.2.2⟩))
        go_wp2
        all_goals
          refine bodyPost_ret (v := .agg #[.int .i64 (k - 3), .int .i64 l, .int .i64 0, .slice a' n' m', .slice none 0 0, .slice none 0 0, .slice none 0 0]) ?_ rfl ?_
          · simp [results, Tryz.results15, go_sem, z0, z1, z2, z3, z4, z5, z6]
          · have hbw : Below w.heap.size w w' := (Hq.out.trans ((Hal.out.mono (by omega)).drew)).trans (hbl.mono (by omega))
            exact ⟨_, rfl, part_end (Nat.le_succ _) hlt3 hk64 Hl.out hfl _ _ _ _ _ _ _, set7_below hbw (Nat.le_succ _) _ _ _ _ _ _ _⟩
      · skip
        go_region_held_law (fun w' => w'.cell? ⟨w.heap.size, 1, none⟩ = some (.int .i64 l) ∧ w'.cell? ⟨w.heap.size, 3, none⟩ = some (.slice (some A0) nf c3) ∧ w'.cell? ⟨w.heap.size, 4, none⟩ = some (.slice (some ⟨b4, o4, none⟩) ne c4) ∧ w'.cell? ⟨b4, o4 + i, none⟩ = some (.int .i64 y)) (first | (with_reducible exact X.out) | (with_reducible exact Y.out) | (with_reducible exact E.out) | (with_reducible exact ⟨set7 (by omega) E.out.1, set7 (by omega) E.out.2.1, set7 (by omega) E.out.2.2.1, set7 (by omega) E.out.2.2.2⟩))
          (first | (refine step_append_none rfl (.tmp 94) (.tmp 103) rfl w2.heap.size w2.heap.size (by simp [Act.eval]) Hgb.out (Nat.le_refl _) (cutF f a y) Hce.out ⟨_, _, _, rfl, by have := Hy0.out; omega⟩ ?_; intro a' n' m' w' hfl hbl hold; obtain ⟨z0, z1, z2, z3, z4, z5, z6, f0, f1, f2, f3, f4, f5, f6⟩ := zfacts ((hold _ hlt3).trans Hz1.out); have E : Hid (w'.cell? ⟨w.heap.size, 1, none⟩ = some (.int .i64 l) ∧ w'.cell? ⟨w.heap.size, 3, none⟩ = some (.slice (some A0) nf c3) ∧ w'.cell? ⟨w.heap.size, 4, none⟩ = some (.slice (some ⟨b4, o4, none⟩) ne c4) ∧ w'.cell? ⟨b4, o4 + i, none⟩ = some (.int .i64 y)) := Lib.hid ⟨(World.cell?_of_block (a := ⟨_, _, none⟩) (hold _ hlt1)).trans Y.out.1, (World.cell?_of_block (a := ⟨_, _, none⟩) (hold _ hlt1)).trans Y.out.2.1, (World.cell?_of_block (a := ⟨_, _, none⟩) (hold _ hlt1)).trans Y.out.2.2.1, (World.cell?_of_block (a := ⟨_, _, none⟩) (hold _ hlt2)).trans Y.out.2.2.2⟩))
        go_wp2
        all_goals
          refine bodyPost_ret (v := .agg #[.int .i64 (k - 3), .int .i64 l, .int .i64 0, .slice a' n' m', .slice none 0 0, .slice none 0 0, .slice none 0 0]) ?_ rfl ?_
          · simp [results, Tryz.results15, go_sem, z0, z1, z2, z3, z4, z5, z6]
          · have hbw : Below w.heap.size w w' := (Hq.out.trans ((Hal.out.mono (by omega)).drew)).trans (hbl.mono (by omega))
            exact ⟨_, rfl, part_end (Nat.le_succ _) hlt3 hk64 Hl.out hfl _ _ _ _ _ _ _, set7_below hbw (Nat.le_succ _) _ _ _ _ _ _ _⟩
    · obtain ⟨bx, ox, rfl, hbxK, hax⟩ : ∃ b o, a3 = some ⟨b, o, none⟩ ∧ b < K ∧ ∀ j, j < f.length → w.cell? ⟨b, o + j, none⟩ = some (.float .f64 (f.getD j 0)) ∧ f.getD j 0 < 18446744073709551616 := by
        obtain ⟨ao', c', hv, _, hx'⟩ := H4.out
        cases hv
        obtain ⟨b, o, h1, h2, h3⟩ := hx' (by have := Hnf.out; omega)
        cases h1
        exact ⟨b, o, rfl, h2, h3⟩
      have hcut : cutF f a y = (f.drop a).take (y - a) := by unfold cutF; simp <;> omega
      have hkw : Keeps (· < K) w (w2.alloc (.cells #[] 151)).drew := fun b hb => (Hal.out.block b (by omega)).trans (Hq.out.block b (by omega))
      have HfA : Hid (FloatsIn (· < K) (w2.alloc (.cells #[] 151)).drew (.slice (if c3 = a then some (⟨bx, ox, none⟩ : Addr) else some ⟨bx, ox + a, none⟩) (y - a) (c3 - a)) (cutF f a y)) := Lib.hid (by
        rw [hcut]
        have hlen : ((f.drop a).take (y - a)).length = y - a := by rw [List.length_take, List.length_drop, Hnf.out]; omega
        refine FloatsIn.keep ?_ hkw
        unfold FloatsIn
        rw [hlen]
        refine ⟨_, _, rfl, ⟨by omega, by omega⟩, fun hpos => ⟨bx, ox + a, ?_, hbxK, fun j hj => ?_⟩⟩
        · rw [if_neg (by omega)]
        · show w.cell? ⟨bx, ox + a + j, none⟩ = _ ∧ _
          rw [getD_sub f a (y - a) j hj, Nat.add_assoc]
          exact hax (a + j) (by rw [Hnf.out]; omega))
      have HfB := HfA
      clear hcut hkw hax y1 y3 y4 ye x1 x3 x4 xe
      go_region_held_law (fun w' => w'.cell? ⟨w.heap.size, 1, none⟩ = some (.int .i64 l) ∧ w'.cell? ⟨w.heap.size, 3, none⟩ = some (.slice (some ⟨bx, ox, none⟩) nf c3) ∧ w'.cell? ⟨w.heap.size, 4, none⟩ = some (.slice (some ⟨b4, o4, none⟩) ne c4) ∧ w'.cell? ⟨b4, o4 + i, none⟩ = some (.int .i64 y)) (first | (with_reducible exact X.out) | (with_reducible exact Y.out) | (with_reducible exact E.out) | (with_reducible exact ⟨set7 (by omega) E.out.1, set7 (by omega) E.out.2.1, set7 (by omega) E.out.2.2.1, set7 (by omega) E.out.2.2.2⟩))
        (first | (refine step_append_floats rfl (.tmp 94) (.tmp 103) rfl w2.heap.size w2.heap.size (by simp [Act.eval]) Hgb.out (Nat.le_refl _) (· < K) (cutF f a y) (y - a) (c3 - a) (if c3 = a then some ⟨bx, ox, none⟩ else some ⟨bx, ox + a, none⟩) (by simp [Act.eval]) (by first | exact HfA.out | exact HfB.out) ?_; intro a' n' m' w' hfl hbl hold; obtain ⟨z0, z1, z2, z3, z4, z5, z6, f0, f1, f2, f3, f4, f5, f6⟩ := zfacts ((hold _ hlt3).trans Hz1.out); have E : Hid (w'.cell? ⟨w.heap.size, 1, none⟩ = some (.int .i64 l) ∧ w'.cell? ⟨w.heap.size, 3, none⟩ = some (.slice (some ⟨bx, ox, none⟩) nf c3) ∧ w'.cell? ⟨w.heap.size, 4, none⟩ = some (.slice (some ⟨b4, o4, none⟩) ne c4) ∧ w'.cell? ⟨b4, o4 + i, none⟩ = some (.int .i64 y)) := Lib.hid ⟨(World.cell?_of_block (a := ⟨_, _, none⟩) (hold _ hlt1)).trans Y.out.1, (World.cell?_of_block (a := ⟨_, _, none⟩) (hold _ hlt1)).trans Y.out.2.1, (World.cell?_of_block (a := ⟨_, _, none⟩) (hold _ hlt1)).trans Y.out.2.2.1, (World.cell?_of_block (a := ⟨_, _, none⟩) (hold _ hlt2)).trans Y.out.2.2.2⟩))
      go_wp2
      all_goals
        refine bodyPost_ret (v := .agg #[.int .i64 (k - 3), .int .i64 l, .int .i64 0, .slice a' n' m', .slice none 0 0, .slice none 0 0, .slice none 0 0]) ?_ rfl ?_
        · simp [results, Tryz.results15, go_sem, z0, z1, z2, z3, z4, z5, z6]
        · have hbw : Below w.heap.size w w' := (Hq.out.trans ((Hal.out.mono (by omega)).drew)).trans (hbl.mono (by omega))
          exact ⟨_, rfl, part_end (Nat.le_succ _) hlt3 hk64 Hl.out hfl _ _ _ _ _ _ _, set7_below hbw (Nat.le_succ _) _ _ _ _ _ _ _⟩
end Go.Proofs.YtfbgnonnbcejkaaGreatDoor
