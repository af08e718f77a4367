/- Lemmas on the way to the law FnWKTParts, without conditions beside those that each states: What comes in, opened: a geometry, and how much it holds. -/
import Derived.Test.YtfbgnonnbcejkaaGreatDoorY42
import Derived.Test.YtfbgnonnbcejkaaGreatDoorRows
import Derived.Deep.Slices
namespace Go.Proofs.YtfbgnonnbcejkaaGreatDoor
open Go.RowKit Go.ChangeShapes Go.WideShapes
open Go.Proofs.YtfbgnonnbcejkaaGreatDoor.Rows (uptoBulk uptoBulkAll)

theorem cellLt {w : World} {a : Addr} {v : Value} (h : w.cell? a = some v) : a.block < w.heap.size := by
  rcases Nat.lt_or_ge a.block w.heap.size with h' | h'
  · exact h'
  · simp [World.cell?, Array.getElem?_eq_none h'] at h
theorem bulkAll_append {H : Type} : ∀ a b : List (DataW H), uptoBulkAll (a ++ b) = uptoBulkAll a + uptoBulkAll b
  | [], b => by simp [uptoBulkAll]
  | x :: a, b => by
    have := bulkAll_append a b
    simp only [List.cons_append, uptoBulkAll]
    omega
theorem bulkAll_mem {H : Type} : ∀ (l : List (DataW H)) (d : DataW H), d ∈ l → uptoBulk d ≤ uptoBulkAll l
  | [], _, h => absurd h (by simp)
  | x :: l, d, h => by
    simp only [uptoBulkAll]
    rcases List.mem_cons.1 h with rfl | h
    · omega
    · have := bulkAll_mem l d h; omega
theorem bulk_pos {H : Type} (d : DataW H) : 1 ≤ uptoBulk d := by
  cases d with
  | lit x => cases x <;> simp [uptoBulk]
  | _ => simp [uptoBulk]
/-- What each part has at least, all have at least together. -/
theorem bulk_sum {H : Type} (D : Nat → DataW H) (g : Nat → Nat) : ∀ n, (∀ j, j < n → g j ≤ uptoBulk (D j)) → ((List.range n).map g).sum ≤ uptoBulkAll ((List.range n).map D)
  | 0, _ => by simp [uptoBulkAll]
  | n + 1, h => by
    have h1 := bulk_sum D g n (fun j hj => h j (by omega))
    have h2 := h n (by omega)
    rw [List.range_succ, List.map_append, List.map_append, bulkAll_append, List.sum_append]
    simp only [List.map_cons, List.map_nil, List.sum_cons, List.sum_nil, uptoBulkAll]
    omega
theorem sum_ones : ∀ n, ((List.range n).map (fun _ => 1)).sum = n
  | 0 => rfl
  | n + 1 => by
    rw [List.range_succ, List.map_append, List.sum_append, sum_ones n]
    simp
theorem endssW_sum (Y : Nat → List Int) : ∀ n, endssW ((List.range n).map Y) = ((List.range n).map (fun j => 1 + (Y j).length)).sum := by
  intro n
  generalize List.range n = l
  induction l with
  | nil => simp [endssW]
  | cons x r ih => simp only [List.map_cons, endssW, List.sum_cons, ih]
theorem geosW_sum (Y : Nat → Geo) : ∀ n, geosW ((List.range n).map Y) = ((List.range n).map (fun j => geoW (Y j))).sum := by
  intro n
  generalize List.range n = l
  induction l with
  | nil => simp [geosW]
  | cons x r ih => simp only [List.map_cons, geosW, List.sum_cons, ih]

section
variable {H : Type} {enc : TypeId × Value → H} {W : World} {held : Bool}

/-- A slice, opened: its elements' cells. -/
theorem open_sl {t e : TypeId} {fuel : Nat} {cs : List Value} {x : DataW H × List MemPlace} (ht : Tryz.prog.underlying t = some (.slice e)) (hpos : 0 < Tryz.prog.cellsOf e) (h : DataW.trod enc Tryz.prog W 0 (fun _ => true) held fuel t cs = some x) :
    ∃ (ao : Option Addr) (n c m : Nat) (Pl : Nat → List MemPlace) (D : Nat → DataW H), cs = [.slice ao n c] ∧ n ≤ c ∧ n + 1 ≤ uptoBulk x.1 ∧ uptoBulkAll ((List.range n).map D) + 1 ≤ uptoBulk x.1 ∧
      (0 < n → ∃ b o, ao = some ⟨b, o, none⟩ ∧ b < W.heap.size ∧ ∀ j, j < n → ∃ us : List Value, us.length = Tryz.prog.cellsOf e ∧ (∀ i, i < us.length → W.cell? ⟨b, o + j * Tryz.prog.cellsOf e + i, none⟩ = us[i]?) ∧ DataW.trod enc Tryz.prog W 0 (fun _ => true) held m e us = some (D j, Pl j)) := by
  rcases Deep.open_slice ht h with ⟨rfl, rfl⟩ | ⟨a, len, cap, m, n, D, Pl, rfl, _, hl, _, hm, rfl, hx⟩
  · exact ⟨none, 0, 0, 0, fun _ => [], fun _ => .nil, rfl, Nat.le_refl _, by simp [uptoBulk], by simp [uptoBulk, uptoBulkAll], fun h => absurd h (by omega)⟩
  · simp only [if_true] at hm
    have hb : uptoBulkAll ((List.range len).map D) + 1 ≤ uptoBulk (DataW.slice ((List.range len).map D) ((List.range (m - len)).map fun j => D (len + j))) := by simp only [uptoBulk]; omega
    have hn := bulk_sum D (fun _ => 1) len (fun j _ => bulk_pos _)
    rw [sum_ones] at hn
    refine ⟨some a, len, cap, n, Pl, D, rfl, hl, (by show len + 1 ≤ uptoBulk (DataW.slice ((List.range len).map D) ((List.range (m - len)).map fun j => D (len + j))); omega), hb, fun h0 => ?_⟩
    obtain ⟨b, o, spot⟩ := a
    have hcell : ∀ j, j < len → ∃ us : List Value, us.length = Tryz.prog.cellsOf e ∧ (∀ i, i < us.length → W.cell? (((⟨b, o, spot⟩ : Addr).add (j * Tryz.prog.cellsOf e)).add i) = us[i]?) ∧ DataW.trod enc Tryz.prog W 0 (fun _ => true) held n e us = some (D j, Pl j) := fun j hj => by
      obtain ⟨us, h1, h2⟩ := hx j (by omega)
      obtain ⟨_, h3, h4⟩ := World.cells?_some h1
      exact ⟨us, h3, fun i hi => h4 i (by omega), h2⟩
    obtain ⟨us, h3, h4, _⟩ := hcell 0 h0
    have h5 := h4 0 (by omega)
    rw [List.getElem?_eq_getElem (by omega)] at h5
    have hspot : spot = none := by
      have := World.cell?_spot h5
      simpa [Addr.add] using this
    subst hspot
    have hlt := cellLt h5
    simp only [add_plain] at hlt hcell
    exact ⟨b, o, rfl, hlt, hcell⟩

theorem open_int3 {fuel : Nat} {cs : List Value} {x : DataW H × List MemPlace} (h : DataW.trod enc Tryz.prog W 0 (fun _ => true) held fuel 3 cs = some x) : ∃ k, cs = [.int .i64 k] ∧ I64 k := by
  obtain ⟨n, rfl, rfl, hw⟩ := DataW.trod_int Tryz.underlying3 h
  simp only [Lit.wf, Bool.and_eq_true, decide_eq_true_eq] at hw
  exact ⟨n, rfl, hw⟩
theorem trod_float {P : Program} {t : TypeId} {fuel : Nat} {cs : List Value} {x : DataW H × List MemPlace} {k : FloatKind} (ht : P.underlying t = some (.float k)) (h : DataW.trod enc P W 0 (fun _ => true) held fuel t cs = some x) : ∃ b, cs = [.float k b] ∧ (Lit.float k b).wf = true := by
  cases fuel with
  | zero => simp [DataW.trod] at h
  | succ n =>
    unfold DataW.trod at h
    rw [ht] at h
    split at h <;> simp_all
theorem open_float151 {fuel : Nat} {cs : List Value} {x : DataW H × List MemPlace} (h : DataW.trod enc Tryz.prog W 0 (fun _ => true) held fuel 151 cs = some x) : ∃ b, cs = [.float .f64 b] ∧ b < 18446744073709551616 := by
  have key := trod_float Tryz.underlying151 h
  obtain ⟨b, rfl, hw⟩ := key
  have h2 : b < 2 ^ 64 := of_decide_eq_true hw
  exact ⟨b, rfl, Nat.lt_of_lt_of_le h2 (by decide)⟩
/-- One cell an element. -/
theorem one_cell {us : List Value} {b o j c : Nat} (hc : c = 1) (h1 : us.length = c) (h2 : ∀ i, i < us.length → W.cell? ⟨b, o + j * c + i, none⟩ = us[i]?) : ∃ v, us = [v] ∧ W.cell? ⟨b, o + j * 1, none⟩ = some v := by
  subst hc
  match us, h1 with
  | [v], _ => exact ⟨v, rfl, by simpa using h2 0 (by simp)⟩
theorem open_ints3 {fuel : Nat} {cs : List Value} {x : DataW H × List MemPlace} (h : DataW.trod enc Tryz.prog W 0 (fun _ => true) held fuel 23 cs = some x) (hx : uptoBulk x.1 ≤ 1048576) :
    ∃ v xs, cs = [v] ∧ IntsAt W.heap.size W v xs ∧ xs.length + 1 ≤ uptoBulk x.1 := by
  obtain ⟨ao, n, c, m, Pl, D, rfl, hnc, hb, _, hs⟩ := open_sl Tryz.underlying23 (by rw [show Tryz.prog.cellsOf 3 = 1 by kernel_rfl]; decide) h
  have hall : ∀ j, j < n → ∃ k : Int, I64 k ∧ ∀ b o, ao = some ⟨b, o, none⟩ → W.cell? ⟨b, o + j * 1, none⟩ = some (.int .i64 k) := fun j hj => by
    obtain ⟨b, o, rfl, _, hel⟩ := hs (by omega)
    obtain ⟨us, h1, h2, h3⟩ := hel j hj
    obtain ⟨v, rfl, hv⟩ := one_cell (show Tryz.prog.cellsOf 3 = 1 by kernel_rfl) h1 h2
    obtain ⟨k, hk, hI⟩ := open_int3 h3
    cases hk
    refine ⟨k, hI, fun b' o' he => ?_⟩
    cases he
    exact hv
  obtain ⟨K, hK⟩ := Deep.choose_lt hall
  refine ⟨_, (List.range n).map K, rfl, ⟨ao, c, by simp, ⟨by simpa using hnc, by simp; omega⟩, fun h0 => ?_⟩, by simpa using hb⟩
  have h0' : 0 < n := by simpa using h0
  obtain ⟨b, o, rfl, hlt, _⟩ := hs h0'
  refine ⟨b, o, rfl, hlt, fun j hj => ?_⟩
  have hj' : j < n := by simpa using hj
  have e : ((List.range n).map K).getD j 0 = K j := by simp [List.getD_eq_getElem?_getD, hj']
  dsimp only
  rw [e]
  exact ⟨(hK j hj').2 _ _ rfl, (hK j hj').1⟩
theorem open_floats {fuel : Nat} {cs : List Value} {x : DataW H × List MemPlace} (h : DataW.trod enc Tryz.prog W 0 (fun _ => true) held fuel 22 cs = some x) (hx : uptoBulk x.1 ≤ 1048576) :
    ∃ v xs, cs = [v] ∧ FloatsAt W.heap.size W v xs ∧ xs.length + 1 ≤ uptoBulk x.1 := by
  obtain ⟨ao, n, c, m, Pl, D, rfl, hnc, hb, _, hs⟩ := open_sl Tryz.underlying22 (by rw [show Tryz.prog.cellsOf 151 = 1 by kernel_rfl]; decide) h
  have hall : ∀ j, j < n → ∃ k : Nat, k < 18446744073709551616 ∧ ∀ b o, ao = some ⟨b, o, none⟩ → W.cell? ⟨b, o + j * 1, none⟩ = some (.float .f64 k) := fun j hj => by
    obtain ⟨b, o, rfl, _, hel⟩ := hs (by omega)
    obtain ⟨us, h1, h2, h3⟩ := hel j hj
    obtain ⟨v, rfl, hv⟩ := one_cell (show Tryz.prog.cellsOf 151 = 1 by kernel_rfl) h1 h2
    obtain ⟨k, hk, hI⟩ := open_float151 h3
    cases hk
    refine ⟨k, hI, fun b' o' he => ?_⟩
    cases he
    exact hv
  obtain ⟨K, hK⟩ := Deep.choose_lt hall
  refine ⟨_, (List.range n).map K, rfl, ⟨ao, c, by simp, ⟨by simpa using hnc, by simp; omega⟩, fun h0 => ?_⟩, by simpa using hb⟩
  have h0' : 0 < n := by simpa using h0
  obtain ⟨b, o, rfl, hlt, _⟩ := hs h0'
  refine ⟨b, o, rfl, hlt, fun j hj => ?_⟩
  have hj' : j < n := by simpa using hj
  have e : ((List.range n).map K).getD j 0 = K j := by simp [List.getD_eq_getElem?_getD, hj']
  dsimp only
  rw [e]
  exact ⟨(hK j hj').2 _ _ rfl, (hK j hj').1⟩
theorem open_intss {fuel : Nat} {cs : List Value} {x : DataW H × List MemPlace} (h : DataW.trod enc Tryz.prog W 0 (fun _ => true) held fuel 24 cs = some x) (hx : uptoBulk x.1 ≤ 1048576) :
    ∃ v xs, cs = [v] ∧ IntssAt W.heap.size W v xs ∧ endssW xs + 1 ≤ uptoBulk x.1 := by
  obtain ⟨ao, n, c, m, Pl, D, rfl, hnc, hb, hsum, hs⟩ := open_sl Tryz.underlying24 (by rw [show Tryz.prog.cellsOf 23 = 1 by kernel_rfl]; decide) h
  have hall : ∀ j, j < n → ∃ xs : List Int, 1 + xs.length ≤ uptoBulk (D j) ∧ ∀ b o, ao = some ⟨b, o, none⟩ → ∃ u, W.cell? ⟨b, o + j * 1, none⟩ = some u ∧ IntsAt W.heap.size W u xs := fun j hj => by
    obtain ⟨b, o, rfl, _, hel⟩ := hs (by omega)
    obtain ⟨us, h1, h2, h3⟩ := hel j hj
    obtain ⟨v, rfl, hv⟩ := one_cell (show Tryz.prog.cellsOf 23 = 1 by kernel_rfl) h1 h2
    have hm := bulkAll_mem ((List.range n).map D) (D j) (List.mem_map_of_mem (List.mem_range.2 hj))
    obtain ⟨v', xs, hk, hI, hl⟩ := open_ints3 h3 (by show uptoBulk (D j) ≤ _; omega)
    cases hk
    refine ⟨xs, (by show 1 + xs.length ≤ uptoBulk (D j); have : xs.length + 1 ≤ uptoBulk (D j) := hl; omega), fun b' o' he => ?_⟩
    cases he
    exact ⟨v, hv, hI⟩
  obtain ⟨K, hK⟩ := Deep.choose_lt hall
  have hw := bulk_sum D (fun j => 1 + (K j).length) n (fun j hj => (hK j hj).1)
  rw [← endssW_sum] at hw
  refine ⟨_, (List.range n).map K, rfl, ⟨ao, c, by simp, ⟨by simpa using hnc, by simp; omega⟩, fun h0 => ?_⟩, by omega⟩
  have h0' : 0 < n := by simpa using h0
  obtain ⟨b, o, rfl, hlt, _⟩ := hs h0'
  refine ⟨b, o, rfl, hlt, fun j hj => ?_⟩
  have hj' : j < n := by simpa using hj
  have e : ((List.range n).map K).getD j [] = K j := by simp [List.getD_eq_getElem?_getD, hj']
  dsimp only
  rw [e]
  exact (hK j hj').2 _ _ rfl
theorem one_of_seven {cs : List Value} (h : cs.length = 7) : ∃ a0 a1 a2 a3 a4 a5 a6, cs = [a0, a1, a2, a3, a4, a5, a6] := by
  match cs, h with
  | [a0, a1, a2, a3, a4, a5, a6], _ => exact ⟨a0, a1, a2, a3, a4, a5, a6, rfl⟩
instance : Inhabited Geo := ⟨.mk 0 0 0 [] [] [] []⟩
/-- A geometry, opened. -/
theorem open_geo : ∀ (N fuel : Nat) (cs : List Value) (x : DataW H × List MemPlace), uptoBulk x.1 ≤ N → N ≤ 1048576 → DataW.trod enc Tryz.prog W 0 (fun _ => true) held fuel 27 cs = some x →
    ∃ g : Geo, GeoVs W.heap.size W cs g ∧ geoW g ≤ uptoBulk x.1 := by
  intro N
  induction N with
  | zero => intro fuel cs x h; have := bulk_pos x.1; omega
  | succ N ih =>
    intro fuel cs x hN hM h
    obtain ⟨xs, m, _, rfl, hl, hlen, hf⟩ := DataW.trod_struct Tryz.underlying27 h
    rw [show Tryz.prog.cellsOf 27 = 7 by kernel_rfl] at hl
    obtain ⟨a0, a1, a2, a3, a4, a5, a6, rfl⟩ := one_of_seven hl
    have c3 : Tryz.prog.cellsOf 3 = 1 := by kernel_rfl
    have c22 : Tryz.prog.cellsOf 22 = 1 := by kernel_rfl
    have c23 : Tryz.prog.cellsOf 23 = 1 := by kernel_rfl
    have c24 : Tryz.prog.cellsOf 24 = 1 := by kernel_rfl
    have c25 : Tryz.prog.cellsOf 25 = 1 := by kernel_rfl
    have f0 : DataW.trod enc Tryz.prog W 0 (fun _ => true) held m 3 (List.take (Tryz.prog.cellsOf 3) (List.drop 0 [a0, a1, a2, a3, a4, a5, a6])) = xs[0]? := hf 0 _ rfl
    rw [c3] at f0
    replace f0 : DataW.trod enc Tryz.prog W 0 (fun _ => true) held m 3 [a0] = xs[0]? := f0
    have f1 : DataW.trod enc Tryz.prog W 0 (fun _ => true) held m 3 (List.take (Tryz.prog.cellsOf 3) (List.drop 1 [a0, a1, a2, a3, a4, a5, a6])) = xs[1]? := hf 1 _ rfl
    rw [c3] at f1
    replace f1 : DataW.trod enc Tryz.prog W 0 (fun _ => true) held m 3 [a1] = xs[1]? := f1
    have f2 : DataW.trod enc Tryz.prog W 0 (fun _ => true) held m 3 (List.take (Tryz.prog.cellsOf 3) (List.drop 2 [a0, a1, a2, a3, a4, a5, a6])) = xs[2]? := hf 2 _ rfl
    rw [c3] at f2
    replace f2 : DataW.trod enc Tryz.prog W 0 (fun _ => true) held m 3 [a2] = xs[2]? := f2
    have f3 : DataW.trod enc Tryz.prog W 0 (fun _ => true) held m 22 (List.take (Tryz.prog.cellsOf 22) (List.drop 3 [a0, a1, a2, a3, a4, a5, a6])) = xs[3]? := hf 3 _ rfl
    rw [c22] at f3
    replace f3 : DataW.trod enc Tryz.prog W 0 (fun _ => true) held m 22 [a3] = xs[3]? := f3
    have f4 : DataW.trod enc Tryz.prog W 0 (fun _ => true) held m 23 (List.take (Tryz.prog.cellsOf 23) (List.drop 4 [a0, a1, a2, a3, a4, a5, a6])) = xs[4]? := hf 4 _ rfl
    rw [c23] at f4
    replace f4 : DataW.trod enc Tryz.prog W 0 (fun _ => true) held m 23 [a4] = xs[4]? := f4
    have f5 : DataW.trod enc Tryz.prog W 0 (fun _ => true) held m 24 (List.take (Tryz.prog.cellsOf 24) (List.drop 5 [a0, a1, a2, a3, a4, a5, a6])) = xs[5]? := hf 5 _ rfl
    rw [c24] at f5
    replace f5 : DataW.trod enc Tryz.prog W 0 (fun _ => true) held m 24 [a5] = xs[5]? := f5
    have f6 : DataW.trod enc Tryz.prog W 0 (fun _ => true) held m 25 (List.take (Tryz.prog.cellsOf 25) (List.drop 6 [a0, a1, a2, a3, a4, a5, a6])) = xs[6]? := hf 6 _ rfl
    rw [c25] at f6
    replace f6 : DataW.trod enc Tryz.prog W 0 (fun _ => true) held m 25 [a6] = xs[6]? := f6
    clear hf
    match xs, hlen with
    | [y0, y1, y2, y3, y4, y5, y6], _ =>
      simp only [List.map_cons, List.map_nil, uptoBulk, uptoBulkAll] at hN ⊢
      have p0 := bulk_pos y0.1
      have p1 := bulk_pos y1.1
      have p2 := bulk_pos y2.1
      have p3 := bulk_pos y3.1
      have p4 := bulk_pos y4.1
      have p5 := bulk_pos y5.1
      have p6 := bulk_pos y6.1
      obtain ⟨k0, e0, i0⟩ := open_int3 (show _ = some y0 from f0)
      obtain ⟨k1, e1, i1⟩ := open_int3 (show _ = some y1 from f1)
      obtain ⟨k2, e2, i2⟩ := open_int3 (show _ = some y2 from f2)
      obtain ⟨v3, F, e3, i3, w3⟩ := open_floats (show _ = some y3 from f3) (by omega)
      obtain ⟨v4, E, e4, i4, w4⟩ := open_ints3 (show _ = some y4 from f4) (by omega)
      obtain ⟨v5, EE, e5, i5, w5⟩ := open_intss (show _ = some y5 from f5) (by omega)
      obtain ⟨ao, n, c, m', Pl, D, e6, hnc, hb, hsum, hs⟩ := open_sl Tryz.underlying25 (by rw [show Tryz.prog.cellsOf 27 = 7 by kernel_rfl]; decide) (show _ = some y6 from f6)
      cases e0
      cases e1
      cases e2
      cases e3
      cases e4
      cases e5
      cases e6
      have hall : ∀ j, j < n → ∃ g : Geo, geoW g ≤ uptoBulk (D j) ∧ ∀ b o, ao = some ⟨b, o, none⟩ → ∃ us, CellsAt W b (o + j * 7) us ∧ GeoVs W.heap.size W us g := fun j hj => by
        obtain ⟨b, o, rfl, _, hel⟩ := hs (by omega)
        obtain ⟨us, h1, h2, h3⟩ := hel j hj
        rw [show Tryz.prog.cellsOf 27 = 7 by kernel_rfl] at h2
        have hm := bulkAll_mem ((List.range n).map D) (D j) (List.mem_map_of_mem (List.mem_range.2 hj))
        obtain ⟨g, hg, hw⟩ := ih m' us _ (by show uptoBulk (D j) ≤ N; omega) (by omega) h3
        refine ⟨g, hw, fun b' o' he => ⟨us, fun i hi => ?_, hg⟩⟩
        cases he
        rw [h2 i hi, List.getD_eq_getElem?_getD, List.getElem?_eq_getElem hi]
        rfl
      obtain ⟨G, hG⟩ := Deep.choose_lt hall
      have hw := bulk_sum D (fun j => geoW (G j)) n (fun j hj => (hG j hj).1)
      rw [← geosW_sum] at hw
      refine ⟨.mk k0 k1 k2 F E EE ((List.range n).map G), ⟨_, _, _, _, rfl, i0, i1, i2, i3, i4, i5, ao, c, by simp, ⟨by simpa using hnc, by simp; omega⟩, ?_⟩, by simp only [geoW]; omega⟩
      rcases Nat.eq_zero_or_pos n with rfl | h0
      · exact ⟨0, 0, fun h => absurd h (by simp), by simp only [List.range_zero, List.map_nil, GeosAt]⟩
      · obtain ⟨b, o, rfl, hlt, _⟩ := hs h0
        refine ⟨b, o, fun _ => ⟨rfl, hlt⟩, geosAt_of _ _ _ (fun j p hp => ?_)⟩
        obtain ⟨hj, he⟩ := List.getElem?_eq_some_iff.1 hp
        have hj' : j < n := by simpa using hj
        simp only [List.getElem_map, List.getElem_range] at he
        subst he
        exact (hG j hj').2 _ _ rfl
end
end Go.Proofs.YtfbgnonnbcejkaaGreatDoor
