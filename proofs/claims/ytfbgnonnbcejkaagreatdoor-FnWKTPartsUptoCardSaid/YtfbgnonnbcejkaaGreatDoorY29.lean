/- Lemmas on the way to the law FnWKTParts, without conditions beside those that each states: Part of a multi polygon. -/
import Derived.Test.YtfbgnonnbcejkaaGreatDoorY28
import Derived.Test.YtfbgnonnbcejkaaGreatDoorY27
namespace Go.Proofs.YtfbgnonnbcejkaaGreatDoor
open Go.RowKit

def lastsF (s : Int) : List (List Int) → Int
  | [] => s
  | x :: r => lastsF (lastF s x) r
theorem lastsF_snoc : ∀ (l : List (List Int)) (s : Int) (x : List Int), lastsF s (l ++ [x]) = lastF (lastsF s l) x
  | [], _, _ => rfl
  | y :: r, s, x => by simp only [List.cons_append, lastsF]; exact lastsF_snoc r _ x
theorem lastF_snoc : ∀ (l : List Int) (s x : Int), lastF s (l ++ [x]) = x
  | [], _, _ => rfl
  | y :: r, s, x => by simp only [List.cons_append, lastF]; exact lastF_snoc r y x
theorem asc_mem {st : Int} : ∀ {x : List Int} {a y : Int}, Asc st false a x y → ∀ z ∈ x, a ≤ z ∧ z ≤ y
  | [], _, _, _, z, hz => by simp at hz
  | e :: r, a, y, h, z, hz => by
    obtain ⟨⟨h1, _, _⟩, h2⟩ := h
    have h3 := h2.le
    rcases List.mem_cons.1 hz with rfl | hz
    · omega
    · have := asc_mem h2 z hz
      omega
theorem take_succ_ints (xs : List Int) (k : Nat) (h : k < xs.length) : xs.take (k + 1) = xs.take k ++ [xs.getD k 0] := by
  rw [List.getD_eq_getElem?_getD, List.getElem?_eq_getElem h, List.take_add_one, List.getElem?_eq_getElem h]
  rfl
theorem take_succ_rows (xs : List (List Int)) (k : Nat) (h : k < xs.length) : xs.take (k + 1) = xs.take k ++ [xs.getD k []] := by
  rw [List.getD_eq_getElem?_getD, List.getElem?_eq_getElem h, List.take_add_one, List.getElem?_eq_getElem h]
  rfl
theorem wp_append_none {ops : Array Oper} {rest : List Oper} {o : Oper} {a : Act} {Q : Exit → Act → World → Prop} {w : World} (hg : o.guard = none) (s x : Operand) (hop : o.op = Op.call { callee := Callee.builtin Builtin.append, args := #[s, x], argTypes := #[22, 22] })
    (base g : Nat) (hs : a.eval s = .slice (some ⟨g, 0, none⟩) 0 0) (hgb : w.heap[g]? = some (.cells #[] 151 (0, 0))) (hbase : base ≤ g)
    (xs : List Nat) (hxs : xs = []) (hx : ∃ ao m c, a.eval x = .slice ao m c ∧ m = 0)
    (h : ∀ a' n' m' w', FloatsIn (fun b => base ≤ b ∧ b < w'.heap.size) w' (.slice a' n' m') xs → Below base w w' → (∀ b, b < g → w'.heap[b]? = w.heap[b]?) → wpList Tryz.prog ops Q rest (a.put o.dst (.slice a' n' m')) w') : wpList Tryz.prog ops Q (o :: rest) a w := by
  refine wpList_plain hg fun K hK => ?_
  have hw : Region.wanted o (yielded ops a.tmps) = true := by simp [Region.wanted, hg]
  have := step_append_none (ops := ops) (K := K) (Q := Q) (E := False) hg s x hop base g hs hgb hbase xs hxs hx (fun a' n' m' w' h1 h2 h3 => hK _ _ (h a' n' m' w' h1 h2 h3))
  rw [if_pos hw] at this
  exact this
theorem wp_append_floats {ops : Array Oper} {rest : List Oper} {o : Oper} {a : Act} {Q : Exit → Act → World → Prop} {w : World} (hg : o.guard = none) (s x : Operand) (hop : o.op = Op.call { callee := Callee.builtin Builtin.append, args := #[s, x], argTypes := #[22, 22] })
    (base g : Nat) (hs : a.eval s = .slice (some ⟨g, 0, none⟩) 0 0) (hgb : w.heap[g]? = some (.cells #[] 151 (0, 0))) (hbase : base ≤ g)
    (S : Nat → Prop) (xs : List Nat) (hx : ∃ ao m c, a.eval x = .slice ao m c ∧ FloatsIn S w (.slice ao m c) xs)
    (h : ∀ a' n' m' w', FloatsIn (fun b => base ≤ b ∧ b < w'.heap.size) w' (.slice a' n' m') xs → Below base w w' → (∀ b, b < g → w'.heap[b]? = w.heap[b]?) → wpList Tryz.prog ops Q rest (a.put o.dst (.slice a' n' m')) w') : wpList Tryz.prog ops Q (o :: rest) a w := by
  refine wpList_plain hg fun K hK => ?_
  obtain ⟨ao, m, c, hx, hf⟩ := hx
  have hw : Region.wanted o (yielded ops a.tmps) = true := by simp [Region.wanted, hg]
  have := step_append_floats (ops := ops) (K := K) (Q := Q) (E := False) hg s x hop base g hs hgb hbase S xs m c ao hx hf (fun a' n' m' w' h1 h2 h3 => hK _ _ (h a' n' m' w' h1 h2 h3))
  rw [if_pos hw] at this
  exact this

theorem part_end2 {B N P M : Nat} {w' : World} {l : Int} {f : List Nat} {e : List Int} {a : Option Addr} {n m : Nat} {ve : Value} (hN : B ≤ N) (hNP : N < P) (hM : P < M) (hl : I64 l) (hf : FloatsIn (fun b => M ≤ b ∧ b < w'.heap.size) w' (.slice a n m) f)
    (he : IntsIn (fun b => P + 1 ≤ b ∧ b < w'.heap.size) w' ve e) (v0 v1 v2 v3 v4 v5 v6 u : Value) :
    PartP (fun b => B ≤ b ∧ b < ((((((((w'.setCell ⟨P, 3, none⟩ u).setCell ⟨N, 0, none⟩ v0).setCell ⟨N, 1, none⟩ v1).setCell ⟨N, 2, none⟩ v2).setCell ⟨N, 3, none⟩ v3).setCell ⟨N, 4, none⟩ v4).setCell ⟨N, 5, none⟩ v5).setCell ⟨N, 6, none⟩ v6).heap.size)
      ((((((((w'.setCell ⟨P, 3, none⟩ u).setCell ⟨N, 0, none⟩ v0).setCell ⟨N, 1, none⟩ v1).setCell ⟨N, 2, none⟩ v2).setCell ⟨N, 3, none⟩ v3).setCell ⟨N, 4, none⟩ v4).setCell ⟨N, 5, none⟩ v5).setCell ⟨N, 6, none⟩ v6)
      [.int .i64 3, .int .i64 l, .int .i64 0, .slice a n m, ve, .slice none 0 0, .slice none 0 0] (.mk 3 l 0 f e [] []) := by
  obtain ⟨h1, h2⟩ := set7_heap (w'.setCell ⟨P, 3, none⟩ u) N v0 v1 v2 v3 v4 v5 v6
  have h3 : (w'.setCell ⟨P, 3, none⟩ u).heap.size = w'.heap.size := by simp [World.setCell]
  have hk : ∀ b, P < b → (((((((((w'.setCell ⟨P, 3, none⟩ u).setCell ⟨N, 0, none⟩ v0).setCell ⟨N, 1, none⟩ v1).setCell ⟨N, 2, none⟩ v2).setCell ⟨N, 3, none⟩ v3).setCell ⟨N, 4, none⟩ v4).setCell ⟨N, 5, none⟩ v5).setCell ⟨N, 6, none⟩ v6).heap[b]? = w'.heap[b]?) := fun b hb => (h1 b (by omega)).trans (Below.heap_setCell _ _ _ _ (by show b ≠ P; omega))
  refine Or.inr ⟨3, l, f, e, rfl, _, _, rfl, ⟨by decide, by decide⟩, hl, ?_, ?_⟩
  · rw [h2, h3]
    exact (hf.keep (fun b hb => hk b (by omega))).mono (fun b hb => ⟨by omega, hb.2⟩)
  · rw [h2, h3]
    exact (he.keep (fun b hb => hk b (by omega))).mono (fun b hb => ⟨by omega, hb.2⟩)
theorem setc_heap {w : World} {b o : Nat} {v : Value} {cs : Array Value} {T : Nat} (h : w.heap[b]? = some (.cells cs T (0, 0))) : (w.setCell ⟨b, o, none⟩ v).heap[b]? = some (.cells (cs.setIfInBounds o v) T (0, 0)) := by
  simp [World.setCell, Array.getElem?_modify, h]

set_option maxHeartbeats 4000000 in
set_option maxRecDepth 100000 in
theorem partP_c (K : Nat) (w : World) (vs : List Value) (l s : Int) (f : List Nat) (e : List Int) (ee : List (List Int)) (kids : List Geo) (hv : GeoVs K w vs (.mk 6 l s f e ee kids)) (hK : K ≤ w.heap.size) (i : Nat) (hi : i < ee.length) (a y : Nat) (st : Int)
    (ha : lastsF 0 (ee.take i) = a) (hy : lastF a (ee.getD i []) = y) (hasc : Asc st false a (ee.getD i []) y) (hyf : y ≤ f.length) :
    Calls Tryz.prog 15 #[.agg vs.toArray, .int .i64 i] w fun en w' => ∃ us, en = .returned (.agg us.toArray) ∧ PartP (fun b => w.heap.size ≤ b ∧ b < w'.heap.size) w' us (.mk 3 l 0 (cutF f a y) ((ee.getD i []).map (· - (a : Int))) [] []) ∧ Below w.heap.size w w' := by
  have hay : a ≤ y := by have := hasc.le.1; omega
  have hmem := asc_mem hasc
  clear hasc
  obtain ⟨vf, ve, vee, vk, rfl, h1, h2, h3, h4, h5, h6, ao, c, rfl, ⟨h8, hkl⟩, b, o, h9, h10⟩ := hv
  clear h9 h10
  have h4i := h4.toIn
  have h6i := h6.toIn
  obtain ⟨a3, c3, rfl, ⟨hc3, hl3⟩, hx3⟩ := h4
  clear hx3
  obtain ⟨a4, c4, rfl, ⟨hc4, hl4⟩, hx4⟩ := h5
  clear hx4
  obtain ⟨a5, c5, rfl, ⟨hc5, hl5⟩, hx5⟩ := h6
  obtain ⟨b5, o5, rfl, hbK5, he5⟩ := hx5 (by omega)
  clear hx5
  have Hl := Lib.hid h2
  have H4 := Lib.hid h4i
  have Ha := Lib.hid ha
  have Hy := Lib.hid hy
  have Hmem := Lib.hid hmem
  have hrow : ∀ j, j < ee.length → ∃ u, w.cell? ⟨b5, o5 + j, none⟩ = some u ∧ IntsIn (· < K) w u (ee.getD j []) := fun j hj => by
    obtain ⟨u, h7, h8⟩ := he5 j hj
    rw [Nat.mul_one] at h7
    exact ⟨u, h7, h8.toIn⟩
  have Hrow := Lib.hid hrow
  clear h1 h2 h3 h4i h6i he5 hrow ha hy hmem
  generalize hnfe : f.length = nf at *
  have Hnf := Lib.hid hnfe
  clear hnfe
  generalize kids.length = nk at *
  generalize e.length = ne at *
  go_enter Tryz.func15, Tryz.ntmps15
  go_wp2_with fail
  have hq : Below w.heap.size w ((w.alloc (.cells #[.int .i64 6, .int .i64 l, .int .i64 s, .slice a3 nf c3, .slice a4 ne c4, .slice (some ⟨b5, o5, none⟩) ee.length c5, .slice ao nk c] 27)).alloc (.cells #[.int .i64 0, .int .i64 0, .int .i64 0, .slice none 0 0, .slice none 0 0, .slice none 0 0, .slice none 0 0] 27)) := ((Below.refl _ w).alloc (Nat.le_refl _) _).alloc (by rw [World.size_alloc]; omega) _
  have hqs : ((w.alloc (.cells #[.int .i64 6, .int .i64 l, .int .i64 s, .slice a3 nf c3, .slice a4 ne c4, .slice (some ⟨b5, o5, none⟩) ee.length c5, .slice ao nk c] 27)).alloc (.cells #[.int .i64 0, .int .i64 0, .int .i64 0, .slice none 0 0, .slice none 0 0, .slice none 0 0, .slice none 0 0] 27)).heap.size = w.heap.size + 2 := by rw [World.size_alloc, World.size_alloc]
  have hqb : ((w.alloc (.cells #[.int .i64 6, .int .i64 l, .int .i64 s, .slice a3 nf c3, .slice a4 ne c4, .slice (some ⟨b5, o5, none⟩) ee.length c5, .slice ao nk c] 27)).alloc (.cells #[.int .i64 0, .int .i64 0, .int .i64 0, .slice none 0 0, .slice none 0 0, .slice none 0 0, .slice none 0 0] 27)).heap[w.heap.size]? = some (.cells #[.int .i64 6, .int .i64 l, .int .i64 s, .slice a3 nf c3, .slice a4 ne c4, .slice (some ⟨b5, o5, none⟩) ee.length c5, .slice ao nk c] 27 (0, 0)) := (Lib.alloc_old _ _ _ (by rw [World.size_alloc]; omega)).trans (heap_alloc_new w _)
  have hqz : ((w.alloc (.cells #[.int .i64 6, .int .i64 l, .int .i64 s, .slice a3 nf c3, .slice a4 ne c4, .slice (some ⟨b5, o5, none⟩) ee.length c5, .slice ao nk c] 27)).alloc (.cells #[.int .i64 0, .int .i64 0, .int .i64 0, .slice none 0 0, .slice none 0 0, .slice none 0 0, .slice none 0 0] 27)).heap[w.heap.size + 1]? = some (.cells #[.int .i64 0, .int .i64 0, .int .i64 0, .slice none 0 0, .slice none 0 0, .slice none 0 0, .slice none 0 0] 27 (0, 0)) := by
    have := heap_alloc_new (w.alloc (.cells #[.int .i64 6, .int .i64 l, .int .i64 s, .slice a3 nf c3, .slice a4 ne c4, .slice (some ⟨b5, o5, none⟩) ee.length c5, .slice ao nk c] 27)) (.cells #[.int .i64 0, .int .i64 0, .int .i64 0, .slice none 0 0, .slice none 0 0, .slice none 0 0, .slice none 0 0] 27)
    rw [World.size_alloc] at this
    exact this
  generalize ((w.alloc (.cells #[.int .i64 6, .int .i64 l, .int .i64 s, .slice a3 nf c3, .slice a4 ne c4, .slice (some ⟨b5, o5, none⟩) ee.length c5, .slice ao nk c] 27)).alloc (.cells #[.int .i64 0, .int .i64 0, .int .i64 0, .slice none 0 0, .slice none 0 0, .slice none 0 0, .slice none 0 0] 27)) = w2 at *
  have x1 : w2.cell? ⟨w.heap.size, 1, none⟩ = some (.int .i64 l) := by rw [Lib.cell_of_heap hqb]; rfl
  have x5 : w2.cell? ⟨w.heap.size, 5, none⟩ = some (.slice (some ⟨b5, o5, none⟩) ee.length c5) := by rw [Lib.cell_of_heap hqb]; rfl
  have hlt1 : w.heap.size < w2.heap.size := by omega
  have hlt3 : w.heap.size + 1 < w2.heap.size := by omega
  have hb5 : b5 < w2.heap.size := by omega
  have Hq := Lib.hid hq
  have Hqb := Lib.hid hqb
  have Hqz := Lib.hid hqz
  have Hqs := Lib.hid hqs
  clear hq hqb hqz hqs
  go_loopw [5, 30] (fun u i' wr => wr = w2 ∧ ∃ (j : Nat) (sk : Int), j ≤ i ∧ i' = .int .i64 j ∧ u = .int .i64 sk ∧ lastsF 0 (ee.take j) = sk) (fun _ i' _ => i - (intOf i').toNat)
  case atStart => exact ⟨rfl, 0, 0, Nat.zero_le _, rfl, rfl, rfl⟩
  case round =>
    obtain ⟨rfl, j, sk, hj, rfl, rfl, hsk⟩ := hrel
    by_cases hji : j < i
    · obtain ⟨u, hcell, hu⟩ := Hrow.out j (by omega)
      have hcell' := keeps_below_cell Hq.out (by omega) hcell
      have hu' := hu.keep (keeps_of_below (Hq.out.mono hK))
      have ht := take_succ_rows ee j (by omega)
      have hl1 := lastsF_snoc (ee.take j) 0 (ee.getD j [])
      rw [← ht, hsk] at hl1
      generalize ee.getD j [] = x at *
      obtain ⟨au, cu, rfl, ⟨hcu, hlu⟩, hua⟩ := hu'
      have Hl1 := Lib.hid hl1
      clear hu hcell ht hl1 hsk
      by_cases hx : x = []
      · subst hx
        clear hua
        go_wp2
        go_roundw
        case rel => exact ⟨trivial, j + 1, sk, by omega, by go_num, rfl, Hl1.out⟩
        case measure => simp [intOf]; omega
      · have hxl : 0 < x.length := List.length_pos_iff.2 hx
        obtain ⟨bu, ou, rfl, hbu, hau⟩ := hua hxl
        have hlast := (hau (x.length - 1) (by omega)).1
        rw [lastF_getD x sk hx] at hlast
        have hsub : ((x.length : Int) - 1) = ((x.length - 1 : Nat) : Int) := by omega
        have hlt9 : x.length - 1 < x.length := by omega
        clear hua hau hx
        generalize lastF sk x = lx at *
        go_wp2
        go_roundw
        case rel => exact ⟨trivial, j + 1, lx, by omega, by go_num, rfl, Hl1.out⟩
        case measure => simp [intOf]; omega
    · have hje : j = i := by omega
      rw [hje, Ha.out] at hsk
      subst hsk
      obtain ⟨u, hcell, hu⟩ := Hrow.out i hi
      have hcell' := keeps_below_cell Hq.out (by omega) hcell
      have hu' := hu.keep (keeps_of_below (Hq.out.mono hK))
      generalize hxe : ee.getD i [] = x at *
      have Hxe := Lib.hid hxe
      clear hxe
      obtain ⟨au, cu, rfl, ⟨hcu, hlu⟩, hua⟩ := hu'
      have Hua := Lib.hid hua
      clear hu hcell hje hua
      go_wp2_with fail
      obtain ⟨w2, rfl⟩ : ∃ z, z = wr := ⟨_, rfl⟩
      have hpb := heap_alloc_new w2 (.cells #[.int .i64 3, .int .i64 l, .int .i64 0, .slice none 0 0, .slice none 0 0, .slice none 0 0, .slice none 0 0] 27)
      have hpal : Below w2.heap.size w2 (w2.alloc (.cells #[.int .i64 3, .int .i64 l, .int .i64 0, .slice none 0 0, .slice none 0 0, .slice none 0 0, .slice none 0 0] 27)) := (Below.refl _ w2).alloc (Nat.le_refl _) _
      have hps : (w2.alloc (.cells #[.int .i64 3, .int .i64 l, .int .i64 0, .slice none 0 0, .slice none 0 0, .slice none 0 0, .slice none 0 0] 27)).heap.size = w2.heap.size + 1 := World.size_alloc ..
      generalize w2.alloc (.cells #[.int .i64 3, .int .i64 l, .int .i64 0, .slice none 0 0, .slice none 0 0, .slice none 0 0, .slice none 0 0] 27) = w3 at *
      have Hpb := Lib.hid hpb
      have Hpal := Lib.hid hpal
      have Hps := Lib.hid hps
      clear hpb hpal hps
      have hKw2 : K ≤ w2.heap.size := by omega
      go_loopw [9, 54] (fun u i' wr => ∃ (j : Nat) (v : Value), j ≤ x.length ∧ i' = .int .i64 j ∧ u = .int .i64 (lastF a (x.take j)) ∧ wr.heap[w2.heap.size]? = some (.cells #[.int .i64 3, .int .i64 l, .int .i64 0, .slice none 0 0, v, .slice none 0 0, .slice none 0 0] 27 (0, 0)) ∧ wr.ownsRow (w2.heap.size + 1) 3 1 v j ((x.take j).map (fun z => Value.int .i64 (z - a))) ∧ Below w2.heap.size w2 wr ∧ w2.heap.size + 1 ≤ wr.heap.size) (fun _ i' _ => x.length - (intOf i').toNat)
      case atStart => exact ⟨0, .slice none 0 0, Nat.zero_le _, rfl, rfl, Hpb.out, World.ownsRow_nil _ _ _ _, Hpal.out, by have := Hps.out; omega⟩
      case round =>
        obtain ⟨j, v, hj, rfl, rfl, hP, hown, hb, hszr⟩ := hrel
        obtain ⟨av, nv, cv, rfl⟩ : ∃ a n c, v = .slice a n c := by
          rcases hown.2 with ⟨h0, _⟩ | ⟨g, cap, cur, h0, _⟩ <;> exact ⟨_, _, _, h0⟩
        have hPl : w2.heap.size < wr.heap.size := hszr
        by_cases hjl : j < x.length
        · obtain ⟨bu, ou, rfl, hbu, hau⟩ := Hua.out (by omega)
          have hcz := keeps_below_cell hb (by omega) (hau j hjl).1
          have hzm := Hmem.out (x.getD j 0) (by rw [List.getD_eq_getElem?_getD, List.getElem?_eq_getElem hjl]; exact List.getElem_mem hjl)
          have ht := take_succ_ints x j hjl
          have hlast : lastF a (x.take (j + 1)) = x.getD j 0 := by rw [ht, lastF_snoc]
          have hmap : (x.take (j + 1)).map (fun z => Value.int .i64 (z - a)) = (x.take j).map (fun z => Value.int .i64 (z - a)) ++ [.int .i64 (x.getD j 0 - a)] := by rw [ht, List.map_append]; rfl
          generalize x.getD j 0 = z at *
          obtain ⟨hz0, hz1⟩ := hzm
          have p4 : wr.cell? ⟨w2.heap.size, 4, none⟩ = some (.slice av nv cv) := by rw [Lib.cell_of_heap hP]; rfl
          obtain ⟨i0, hi0, hz0', hz1', hz2'⟩ := info_parts infoI
          have hown' := hown.alloc (.cells #[.int .i64 (z - a)] 3)
          have hc2 : ∀ q y, ([Value.int .i64 (z - a)] : List Value)[q]? = some y → (wr.alloc (.cells #[.int .i64 (z - a)] 3)).cell? ((⟨wr.heap.size, 0, none⟩ : Addr).add q) = some y := by
            intro q y hq
            match q, hq with
            | 0, hq => simp at hq; subst hq; simp [Addr.add]
          have hbase : w2.heap.size + 1 ≤ (wr.alloc (.cells #[.int .i64 (z - a)] 3)).heap.size := by rw [World.size_alloc]; omega
          have hPa : (wr.alloc (.cells #[.int .i64 (z - a)] 3)).heap[w2.heap.size]? = some (.cells #[.int .i64 3, .int .i64 l, .int .i64 0, .slice none 0 0, .slice av nv cv, .slice none 0 0, .slice none 0 0] 27 (0, 0)) := (Lib.alloc_old _ _ _ hPl).trans hP
          have HPa := Lib.hid hPa
          have Hlast := Lib.hid hlast
          have Hmap := Lib.hid hmap
          have Hb := Lib.hid hb
          clear hPa hP ht hlast hmap hb hau
          go_wp2_with (at_builtin; refine wpList_append_own _ rfl _ _ 23 rfl (w2.heap.size + 1) 3 i0 (.int .i64 0) 1 8 Tryz.underlying23 hi0 hz0' hz1' hz2' rfl (by decide) _ j _ rfl hown' ⟨wr.heap.size, 0, none⟩ 1 1 [.int .i64 (z - a)] rfl rfl hc2 ?c1 ?c2 ?c3 hbase ?_)
          case c1 => intro y hy; simp at hy; subst hy; rfl
          case c2 => unfold maxLen; omega
          case c3 => omega
          intro v' w4 hown4 hgrow _
          have hP4 : w4.heap[w2.heap.size]? = some (.cells #[.int .i64 3, .int .i64 l, .int .i64 0, .slice none 0 0, .slice av nv cv, .slice none 0 0, .slice none 0 0] 27 (0, 0)) := by
            rw [hgrow.block w2.heap.size (by rw [World.size_alloc]; omega) (fun e => by have := (hown'.lt _ e.symm).1; omega)]
            exact HPa.out
          have q4 : w4.cell? ⟨w2.heap.size, 4, none⟩ = some (.slice av nv cv) := by rw [Lib.cell_of_heap hP4]; rfl
          have g4 : w4.frozen? ⟨w2.heap.size, 4, none⟩ = false := Lib.frozen_of_heap hP4 4
          obtain ⟨a4', n4', c4', rfl⟩ : ∃ a n c, v' = .slice a n c := by
            rcases hown4.2 with ⟨h0, _⟩ | ⟨g, cap, cur, h0, _⟩ <;> exact ⟨_, _, _, h0⟩
          have hbel : Below w2.heap.size w2 w4 := ((Hb.out.alloc (by omega) _).grown hgrow (by rw [World.size_alloc]; omega) (fun q hq => by have := (hown'.lt q hq).1; omega))
          have hszz : w2.heap.size + 1 ≤ w4.heap.size := Nat.le_trans hbase hgrow.size
          have HP4 := Lib.hid hP4
          have Hown4 := Lib.hid hown4
          have Hbel := Lib.hid hbel
          clear hP4 hown4 hgrow hbel hown' hc2 hbase hown
          go_wp2
          go_roundw
          case rel =>
            refine ⟨j + 1, _, by omega, by go_num, by rw [Hlast.out], setc_heap HP4.out, ?_, Hbel.out.setCell (p := ⟨w2.heap.size, 4, none⟩) (Nat.le_refl _) _, by simp [World.setCell]; exact hszz⟩
            rw [Hmap.out, List.map_take]
            exact ownsRow_setCell_below Hown4.out (a := ⟨w2.heap.size, 4, none⟩) (Nat.lt_succ_self _) _
          case measure => simp [intOf]; omega
        · have hje2 : j = x.length := by omega
          have htk : x.take j = x := by rw [hje2, List.take_length]
          have hty : lastF a (x.take j) = y := by rw [htk]; exact Hy.out
          rw [htk] at hown
          rw [hje2] at hown
          rw [hty]
          have p0 : wr.cell? ⟨w2.heap.size, 3, none⟩ = some (.slice none 0 0) := by rw [Lib.cell_of_heap hP]; rfl
          have x3w : wr.cell? ⟨w.heap.size, 3, none⟩ = some (.slice a3 nf c3) := keeps_below_cell hb hlt1 (by rw [Lib.cell_of_heap Hqb.out]; rfl)
          have hal : Below wr.heap.size wr (wr.alloc (.cells #[] 151)) := (Below.refl _ wr).alloc (Nat.le_refl _) _
          have y3 := keeps_below_cell hal (by omega) x3w
          have hPa := (hal.block w2.heap.size hPl).trans hP
          have hZ : wr.heap[w.heap.size + 1]? = some (.cells #[.int .i64 0, .int .i64 0, .int .i64 0, .slice none 0 0, .slice none 0 0, .slice none 0 0, .slice none 0 0] 27 (0, 0)) := (hb.block _ hlt3).trans Hqz.out
          have hZa := (hal.block (w.heap.size + 1) (by omega)).trans hZ
          have hgb : (wr.alloc (.cells #[] 151)).heap[wr.heap.size]? = some (.cells #[] 151 (0, 0)) := heap_alloc_new wr _
          have hends : IntsIn (fun b => w2.heap.size + 1 ≤ b ∧ b < wr.heap.size) wr (.slice av nv cv) (x.map (· - (a : Int))) := by
            have hlm : (x.map (· - (a : Int))).length = x.length := List.length_map ..
            unfold IntsIn
            rw [hlm]
            refine slIn_owns hown hlu _ ?_
            intro q g hq2 hu2 _ _
            have hzm := Hmem.out (x.getD q 0) (by rw [List.getD_eq_getElem?_getD, List.getElem?_eq_getElem hq2]; exact List.getElem_mem hq2)
            have hgd : (x.map (· - (a : Int))).getD q 0 = x.getD q 0 - a := by
              rw [List.getD_eq_getElem?_getD, List.getElem?_map, List.getElem?_eq_getElem hq2, List.getD_eq_getElem?_getD, List.getElem?_eq_getElem hq2]; rfl
            rw [hgd]
            refine ⟨hu2 _ (by rw [List.getElem?_map, List.getElem?_eq_getElem hq2, List.getD_eq_getElem?_getD, List.getElem?_eq_getElem hq2]; rfl), ?_⟩
            unfold I64
            omega
          have hcut : cutF f a y = (f.drop a).take (y - a) := by unfold cutF; simp <;> omega
          have hkw : Keeps (· < K) w (wr.alloc (.cells #[] 151)) := fun b hb' => (hal.block b (by omega)).trans ((hb.block b (by omega)).trans (Hq.out.block b (by omega)))
          have hyc : y ≤ c3 := by omega
          have Hends := Lib.hid hends
          have HPa := Lib.hid hPa
          have HZa := Lib.hid hZa
          have Hgb := Lib.hid hgb
          have Hal := Lib.hid hal
          have Hb := Lib.hid hb
          have Hcut := Lib.hid hcut
          have Hkw := Lib.hid hkw
          clear hends hPa hZa hgb hal hb hcut hkw hown hP hZ x3w hje2 htk hty
          rcases Nat.eq_or_lt_of_le hay with hnf | hnf
          · have hce : cutF f a y = [] := by rw [Hcut.out, hnf, Nat.sub_self]; simp
            have Hce := Lib.hid hce
            have Hya := Lib.hid (show y - a = 0 by omega)
            clear hce hnf
            rcases a3 with _ | A0
            all_goals
              go_wp2_with (at_builtin; refine wp_append_none rfl _ _ rfl wr.heap.size wr.heap.size rfl Hgb.out (Nat.le_refl _) (cutF f a y) Hce.out ⟨_, _, _, rfl, by have := Hya.out; omega⟩ ?_)
            all_goals
              intro a' n' m' w6 hfl hbl hold

              have hPl6 : w6.heap[w2.heap.size]? = some (.cells #[.int .i64 3, .int .i64 l, .int .i64 0, .slice none 0 0, .slice av nv cv, .slice none 0 0, .slice none 0 0] 27 (0, 0)) := (hold _ hPl).trans HPa.out
              have hZ6 : w6.heap[w.heap.size + 1]? = some (.cells #[.int .i64 0, .int .i64 0, .int .i64 0, .slice none 0 0, .slice none 0 0, .slice none 0 0, .slice none 0 0] 27 (0, 0)) := (hold _ (by omega)).trans HZa.out
              obtain ⟨z0, z1, z2, z3, z4, z5, z6, f0, f1, f2, f3, f4, f5, f6⟩ := zfacts hZ6
              have r0 : w6.cell? ⟨w2.heap.size, 0, none⟩ = some (.int .i64 3) := by rw [Lib.cell_of_heap hPl6]; rfl
              have r1 : w6.cell? ⟨w2.heap.size, 1, none⟩ = some (.int .i64 l) := by rw [Lib.cell_of_heap hPl6]; rfl
              have r2 : w6.cell? ⟨w2.heap.size, 2, none⟩ = some (.int .i64 0) := by rw [Lib.cell_of_heap hPl6]; rfl
              have r3 : w6.cell? ⟨w2.heap.size, 3, none⟩ = some (.slice none 0 0) := by rw [Lib.cell_of_heap hPl6]; rfl
              have r4 : w6.cell? ⟨w2.heap.size, 4, none⟩ = some (.slice av nv cv) := by rw [Lib.cell_of_heap hPl6]; rfl
              have r5 : w6.cell? ⟨w2.heap.size, 5, none⟩ = some (.slice none 0 0) := by rw [Lib.cell_of_heap hPl6]; rfl
              have r6 : w6.cell? ⟨w2.heap.size, 6, none⟩ = some (.slice none 0 0) := by rw [Lib.cell_of_heap hPl6]; rfl
              have g3 : w6.frozen? ⟨w2.heap.size, 3, none⟩ = false := Lib.frozen_of_heap hPl6 3
              have hne : w2.heap.size ≠ w.heap.size + 1 := by omega
              have hne' : w.heap.size + 1 ≠ w2.heap.size := by omega
              have hbw : Below w.heap.size w w6 := (Hq.out.trans (Hb.out.mono (by omega))).trans ((Hal.out.mono (by omega)).trans (hbl.mono (by omega)))
              have hends6 : IntsIn (fun b => w2.heap.size + 1 ≤ b ∧ b < w6.heap.size) w6 (.slice av nv cv) (x.map (· - (a : Int))) :=
                (Hends.out.keep (fun b hb' => (hold b hb'.2).trans (Hal.out.block b hb'.2))).mono (fun b hb' => ⟨hb'.1, Nat.lt_of_lt_of_le hb'.2 (Nat.le_trans Hal.out.size hbl.size)⟩)
              have Hfl := Lib.hid hfl
              have Hbw := Lib.hid hbw
              have Hends6 := Lib.hid hends6
              clear hPl6 hZ6 hold hbl hfl hbw hends6
              go_wp2
              refine bodyPost_ret (v := .agg #[.int .i64 3, .int .i64 l, .int .i64 0, .slice a' n' m', .slice av nv cv, .slice none 0 0, .slice none 0 0]) ?_ rfl ?_
              · simp [results, Tryz.results15, go_sem, z0, z1, z2, z3, z4, z5, z6]
              · rw [Hxe.out]; refine ⟨_, rfl, part_end2 (Nat.le_succ _) (by omega) hPl Hl.out Hfl.out Hends6.out _ _ _ _ _ _ _ _, set7_below (Hbw.out.setCell (p := ⟨w2.heap.size, 3, none⟩) (by show w.heap.size ≤ w2.heap.size; omega) _) (Nat.le_succ _) _ _ _ _ _ _ _⟩

          · obtain ⟨bx, ox, rfl, hbxK, hax⟩ : ∃ b o, a3 = some ⟨b, o, none⟩ ∧ b < K ∧ ∀ j, j < f.length → w.cell? ⟨b, o + j, none⟩ = some (.float .f64 (f.getD j 0)) ∧ f.getD j 0 < 18446744073709551616 := by
              obtain ⟨ao', c', hv, _, hx'⟩ := H4.out
              cases hv
              obtain ⟨b, o, h1, h2, h3⟩ := hx' (by have := Hnf.out; omega)
              cases h1
              exact ⟨b, o, rfl, h2, h3⟩
            have hca : ¬ c3 = a := by omega
            have HfA : Hid (FloatsIn (· < K) (wr.alloc (.cells #[] 151)) (.slice (some ⟨bx, ox + a, none⟩) (y - a) (c3 - a)) (cutF f a y)) := Lib.hid (by
              rw [Hcut.out]
              have hlen : ((f.drop a).take (y - a)).length = y - a := by rw [List.length_take, List.length_drop, Hnf.out]; omega
              refine FloatsIn.keep ?_ Hkw.out
              unfold FloatsIn
              rw [hlen]
              refine ⟨_, _, rfl, ⟨by omega, by omega⟩, fun hpos => ⟨bx, ox + a, rfl, hbxK, fun j hj => ?_⟩⟩
              show w.cell? ⟨bx, ox + a + j, none⟩ = _ ∧ _
              rw [getD_sub f a (y - a) j hj, Nat.add_assoc]
              exact hax (a + j) (by rw [Hnf.out]; omega))
            clear hax
            go_wp2_with (at_builtin; refine wp_append_floats rfl _ _ rfl wr.heap.size wr.heap.size rfl Hgb.out (Nat.le_refl _) (· < K) (cutF f a y) ⟨_, _, _, rfl, by exact HfA.out⟩ ?_)
            intro a' n' m' w6 hfl hbl hold

            have hPl6 : w6.heap[w2.heap.size]? = some (.cells #[.int .i64 3, .int .i64 l, .int .i64 0, .slice none 0 0, .slice av nv cv, .slice none 0 0, .slice none 0 0] 27 (0, 0)) := (hold _ hPl).trans HPa.out
            have hZ6 : w6.heap[w.heap.size + 1]? = some (.cells #[.int .i64 0, .int .i64 0, .int .i64 0, .slice none 0 0, .slice none 0 0, .slice none 0 0, .slice none 0 0] 27 (0, 0)) := (hold _ (by omega)).trans HZa.out
            obtain ⟨z0, z1, z2, z3, z4, z5, z6, f0, f1, f2, f3, f4, f5, f6⟩ := zfacts hZ6
            have r0 : w6.cell? ⟨w2.heap.size, 0, none⟩ = some (.int .i64 3) := by rw [Lib.cell_of_heap hPl6]; rfl
            have r1 : w6.cell? ⟨w2.heap.size, 1, none⟩ = some (.int .i64 l) := by rw [Lib.cell_of_heap hPl6]; rfl
            have r2 : w6.cell? ⟨w2.heap.size, 2, none⟩ = some (.int .i64 0) := by rw [Lib.cell_of_heap hPl6]; rfl
            have r3 : w6.cell? ⟨w2.heap.size, 3, none⟩ = some (.slice none 0 0) := by rw [Lib.cell_of_heap hPl6]; rfl
            have r4 : w6.cell? ⟨w2.heap.size, 4, none⟩ = some (.slice av nv cv) := by rw [Lib.cell_of_heap hPl6]; rfl
            have r5 : w6.cell? ⟨w2.heap.size, 5, none⟩ = some (.slice none 0 0) := by rw [Lib.cell_of_heap hPl6]; rfl
            have r6 : w6.cell? ⟨w2.heap.size, 6, none⟩ = some (.slice none 0 0) := by rw [Lib.cell_of_heap hPl6]; rfl
            have g3 : w6.frozen? ⟨w2.heap.size, 3, none⟩ = false := Lib.frozen_of_heap hPl6 3
            have hne : w2.heap.size ≠ w.heap.size + 1 := by omega
            have hne' : w.heap.size + 1 ≠ w2.heap.size := by omega
            have hbw : Below w.heap.size w w6 := (Hq.out.trans (Hb.out.mono (by omega))).trans ((Hal.out.mono (by omega)).trans (hbl.mono (by omega)))
            have hends6 : IntsIn (fun b => w2.heap.size + 1 ≤ b ∧ b < w6.heap.size) w6 (.slice av nv cv) (x.map (· - (a : Int))) :=
              (Hends.out.keep (fun b hb' => (hold b hb'.2).trans (Hal.out.block b hb'.2))).mono (fun b hb' => ⟨hb'.1, Nat.lt_of_lt_of_le hb'.2 (Nat.le_trans Hal.out.size hbl.size)⟩)
            have Hfl := Lib.hid hfl
            have Hbw := Lib.hid hbw
            have Hends6 := Lib.hid hends6
            clear hPl6 hZ6 hold hbl hfl hbw hends6
            go_wp2
            refine bodyPost_ret (v := .agg #[.int .i64 3, .int .i64 l, .int .i64 0, .slice a' n' m', .slice av nv cv, .slice none 0 0, .slice none 0 0]) ?_ rfl ?_
            · simp [results, Tryz.results15, go_sem, z0, z1, z2, z3, z4, z5, z6]
            · rw [Hxe.out]; refine ⟨_, rfl, part_end2 (Nat.le_succ _) (by omega) hPl Hl.out Hfl.out Hends6.out _ _ _ _ _ _ _ _, set7_below (Hbw.out.setCell (p := ⟨w2.heap.size, 3, none⟩) (by show w.heap.size ≤ w2.heap.size; omega) _) (Nat.le_succ _) _ _ _ _ _ _ _⟩
end Go.Proofs.YtfbgnonnbcejkaaGreatDoor
