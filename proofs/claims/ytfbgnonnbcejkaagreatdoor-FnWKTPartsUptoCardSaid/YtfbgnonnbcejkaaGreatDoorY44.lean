/- Lemmas on the way to the law FnWKTParts, without conditions beside those that each states: What the row lists gives the tables that the walks read. -/
import Derived.Test.YtfbgnonnbcejkaaGreatDoorY43
import Derived.Lib.LaidTab
import Derived.OpenShut
namespace Go.Proofs.YtfbgnonnbcejkaaGreatDoor
open Go.RowKit Go.ChangeShapes Go.WideShapes
open Go.Lib (tabData TabIs)

theorem laid_get {P : Program} {w : World} : ∀ (l : List (String × DataW Unit)) (ps : List MemPlace), DataW.LaidVars P w l ps → ∀ n d, (n, d) ∈ l →
    ∃ g t cs fuel p, P.globalNamed n = some g ∧ (P.globals[g]?).map (·.type) = some t ∧ w.var? P n = some cs ∧ DataW.trod (fun _ => ()) P w 0 (fun _ => true) false fuel t cs.toList = some (d, p)
  | [], _, _, _, _, h => absurd h (by simp)
  | (m, e) :: r, ps, ⟨g, t, cs, fuel, p, q, h1, h2, h3, h4, h5, _⟩, n, d, h => by
    rcases List.mem_cons.1 h with he | h
    · cases he
      exact ⟨g, t, cs, fuel, p, h1, h2, h3, h4⟩
    · exact laid_get r q h5 n d h
theorem g_opt : Tryz.prog.globalNamed "internal/strconv.optimize" = some 0 := by kernel_rfl
theorem g_u10 : Tryz.prog.globalNamed "internal/strconv.uint64pow10" = some 1 := by kernel_rfl
theorem g_p10 : Tryz.prog.globalNamed "internal/strconv.pow10Tab" = some 2 := by kernel_rfl
theorem g_cheats : Tryz.prog.globalNamed "internal/strconv.leftcheats" = some 3 := by kernel_rfl
theorem t_opt : (Tryz.prog.globals[0]?).map (·.type) = some 4 := by kernel_rfl
theorem t_u10 : (Tryz.prog.globals[1]?).map (·.type) = some 192 := by kernel_rfl
theorem t_p10 : (Tryz.prog.globals[2]?).map (·.type) = some 202 := by kernel_rfl
theorem t_cheats : (Tryz.prog.globals[3]?).map (·.type) = some 209 := by kernel_rfl
theorem cells159 : Tryz.prog.cellsOf 159 = 1 := by kernel_rfl
theorem cells192 : Tryz.prog.cellsOf 192 = 20 := by kernel_rfl
theorem cells201 : Tryz.prog.cellsOf 201 = 2 := by kernel_rfl
theorem cells202 : Tryz.prog.cellsOf 202 = 1392 := by kernel_rfl
theorem cells208 : Tryz.prog.cellsOf 208 = 2 := by kernel_rfl
theorem cells209 : Tryz.prog.cellsOf 209 = 1 := by kernel_rfl
theorem cells3 : Tryz.prog.cellsOf 3 = 1 := by kernel_rfl
theorem cells9 : Tryz.prog.cellsOf 9 = 1 := by kernel_rfl
def u10Z : List Int := (List.range 20).map fun i => ((10 ^ i : Nat) : Int)
theorem u10_data : (Rows.laid_internal_strconv_uint64pow10 : DataW Unit) = tabData .u64 u10Z := by kernel_rfl
theorem u10Z_get (i : Nat) (h : i < 20) : u10Z.getD i 0 = ((10 ^ i : Nat) : Int) := by
  unfold u10Z
  rw [List.getD_eq_getElem?_getD, List.getElem?_map, List.getElem?_range h]
  rfl
theorem pairs_get : ∀ (l : List (Nat × Nat)) (j : Nat) (x : Nat × Nat), l[j]? = some x → (l.flatMap fun x => [x.1, x.2]).getD (j * 2) 0 = x.1 ∧ (l.flatMap fun x => [x.1, x.2]).getD (j * 2 + 1) 0 = x.2
  | [], _, _, h => by simp at h
  | y :: r, 0, x, h => by
    simp only [List.getElem?_cons_zero, Option.some.injEq] at h
    subst h
    exact ⟨rfl, rfl⟩
  | y :: r, j + 1, x, h => by
    have := pairs_get r j x (by simpa using h)
    rw [List.flatMap_cons, show (j + 1) * 2 = j * 2 + 1 + 1 by omega]
    exact this
theorem open_pair {w : World} {fuel : Nat} {cs : List Value} {y : DataW Unit × List MemPlace} {a b : Nat} (h : DataW.trod (fun _ => ()) Tryz.prog w 0 (fun _ => true) false fuel 201 cs = some y) (hy : y.1 = .agg [.lit (.int .u64 a), .lit (.int .u64 b)]) : cs = [.int .u64 a, .int .u64 b] := by
  obtain ⟨y0, y1, n, rfl, hl, h0, h1⟩ := trod_struct2 Tryz.underlying201 h
  rw [cells201] at hl
  rw [cells159] at h0 h1
  match cs, hl with
  | [c0, c1], _ =>
    obtain ⟨z0, e0, r0, _⟩ := DataW.trod_int Tryz.underlying159 h0
    obtain ⟨z1, e1, r1, _⟩ := DataW.trod_int Tryz.underlying159 h1
    simp only [List.drop_zero, List.take_succ_cons, List.take_zero, List.drop_succ_cons, List.cons.injEq, and_true] at e0 e1
    subst e0 e1 r0 r1
    simp only [DataW.agg.injEq, List.cons.injEq, DataW.lit.injEq, Lit.int.injEq, true_and, and_true] at hy
    rw [hy.1, hy.2]
theorem open_cheat {w : World} {fuel : Nat} {cs : List Value} {y : DataW Unit × List MemPlace} {a : Nat} {s : List UInt8} (h : DataW.trod (fun _ => ()) Tryz.prog w 0 (fun _ => true) false fuel 208 cs = some y) (hy : y.1 = .agg [.lit (.int .i64 a), .lit (.string s)]) : cs = [.int .i64 a, .string ⟨s.toArray⟩] := by
  obtain ⟨y0, y1, n, rfl, hl, h0, h1⟩ := trod_struct2 Tryz.underlying208 h
  rw [cells208] at hl
  rw [cells3] at h0
  rw [cells9] at h1
  match cs, hl with
  | [c0, c1], _ =>
    obtain ⟨z0, e0, r0, _⟩ := DataW.trod_int Tryz.underlying3 h0
    obtain ⟨z1, e1, r1, _⟩ := DataW.trod_string Tryz.underlying9 h1
    simp only [List.drop_zero, List.take_succ_cons, List.take_zero, List.drop_succ_cons, List.cons.injEq, and_true] at e0 e1
    subst e0 e1 r0 r1
    simp only [DataW.agg.injEq, List.cons.injEq, DataW.lit.injEq, Lit.int.injEq, Lit.string.injEq, true_and, and_true] at hy
    rw [hy.1, ← hy.2]
theorem noHandles : (Rows.fnWKTPartsUptoRow.laid.filter fun x => x.2.handleName?.isSome) = [] := by kernel_rfl
theorem mem_opt : ("internal/strconv.optimize", (Rows.laid_internal_strconv_optimize : DataW Unit)) ∈ Rows.fnWKTPartsUptoRow.laid := .tail _ (.tail _ (.head _))
theorem mem_u10 : ("internal/strconv.uint64pow10", (Rows.laid_internal_strconv_uint64pow10 : DataW Unit)) ∈ Rows.fnWKTPartsUptoRow.laid := .tail _ (.tail _ (.tail _ (.head _)))
theorem mem_cheats : ("internal/strconv.leftcheats", Rows.laid_internal_strconv_leftcheats) ∈ Rows.fnWKTPartsUptoRow.laid := .tail _ (.tail _ (.tail _ (.tail _ (.head _))))
theorem mem_p10 : ("internal/strconv.pow10Tab", Rows.laid_internal_strconv_pow10Tab) ∈ Rows.fnWKTPartsUptoRow.laid := .tail _ (.tail _ (.tail _ (.tail _ (.tail _ (.head _)))))

theorem tabs_of_laid {W : World} (h : laidMetH Tryz.prog Rows.fnWKTPartsUptoRow.laid W) : Tabs W.heap.size W := by
  have h1 : laidMet Tryz.prog Rows.fnWKTPartsUptoRow.laid W := by
    unfold laidMetH at h
    rw [noHandles] at h
    exact h
  obtain ⟨ps, hv, _⟩ := h1
  have h0 := laid_get _ _ hv _ _ mem_opt
  have h2 := laid_get _ _ hv _ _ mem_u10
  have h3 := laid_get _ _ hv _ _ mem_p10
  have h4 := laid_get _ _ hv _ _ mem_cheats
  clear hv h
  have opt : W.cell? ⟨0, 0, none⟩ = some (.bool true) := by
    obtain ⟨g, t, cs, fuel, p, hg, ht, hv, hd⟩ := h0
    obtain rfl := Option.some.inj (g_opt.symm.trans hg)
    obtain rfl := Option.some.inj (t_opt.symm.trans ht)
    obtain ⟨b, hb, hx⟩ := DataW.trod_bool Tryz.underlying4 hd
    have hx1 : (DataW.lit (.bool true) : DataW Unit) = .lit (.bool b) := congrArg Prod.fst hx
    cases hx1
    rw [World.var?_cell g_opt hv 0, ← Array.getElem?_toList, hb]
    rfl
  have u10 : ∀ i, i < 20 → W.cell? ⟨1, i, none⟩ = some (.int .u64 ((10 ^ i : Nat) : Int)) := by
    obtain ⟨g, t, cs, fuel, p, hg, ht, hv, hd⟩ := h2
    obtain rfl := Option.some.inj (g_u10.symm.trans hg)
    obtain rfl := Option.some.inj (t_u10.symm.trans ht)
    rw [u10_data] at hd
    have hc := Lib.cells_of_tab Tryz.underlying192 Tryz.underlying159 cells159 cells192 hd
    have hT : TabIs Tryz.prog W "internal/strconv.uint64pow10" .u64 u10Z := by
      unfold TabIs
      rw [hv, ← hc]
    intro i hi
    rw [hT.cell g_u10 i (by unfold u10Z; rw [List.length_map, List.length_range]; exact hi), u10Z_get i hi]
  have p10' : ∀ i, i < 1392 → W.cell? ⟨2, i, none⟩ = some (.int .u64 (p10 i)) := by
    obtain ⟨g, t, cs, fuel, p, hg, ht, hv, hd⟩ := h3
    obtain rfl := Option.some.inj (g_p10.symm.trans hg)
    obtain rfl := Option.some.inj (t_p10.symm.trans ht)
    obtain ⟨xs, m, _, hx, hl, hlen, hf⟩ := DataW.trod_array Tryz.underlying202 hd
    have hx1 : Rows.laid_internal_strconv_pow10Tab = .agg (xs.map (·.1)) := congrArg Prod.fst hx
    have hx2 : xs.map (·.1) = Pinned.pow10Rows.map fun x => DataW.agg [DataW.lit (Lit.int IntKind.u64 x.1), DataW.lit (Lit.int IntKind.u64 x.2)] := by
      have : DataW.agg (xs.map (·.1)) = DataW.agg (Pinned.pow10Rows.map fun x => DataW.agg [DataW.lit (Lit.int IntKind.u64 x.1), DataW.lit (Lit.int IntKind.u64 x.2)]) := hx1.symm
      exact DataW.agg.inj this
    have hrl : Pinned.pow10Rows.length = 696 := by
      have := congrArg List.length hx2
      simpa [hlen] using this.symm
    have hp10 : ∀ i, p10 i = (((Pinned.pow10Rows.flatMap fun x => [x.1, x.2]).getD i 0 : Nat) : Int) := fun i => rfl
    clear hx1 hx hd
    generalize Pinned.pow10Rows = R at hp10 hrl hx2
    have key : ∀ j, j < 696 → W.cell? ⟨2, j * 2, none⟩ = some (.int .u64 (p10 (j * 2))) ∧ W.cell? ⟨2, j * 2 + 1, none⟩ = some (.int .u64 (p10 (j * 2 + 1))) := by
      intro j hj
      have h1 := hf j hj
      rw [cells201, List.getElem?_eq_getElem (by omega)] at h1
      have hr : R[j]? = some R[j] := List.getElem?_eq_getElem (by omega)
      have h2 : xs[j].1 = DataW.agg [DataW.lit (Lit.int IntKind.u64 (R[j]).1), DataW.lit (Lit.int IntKind.u64 (R[j]).2)] := by
        have := congrArg (·[j]?) hx2
        simp only [List.getElem?_map, hr, List.getElem?_eq_getElem (show j < xs.length by omega), Option.map_some, Option.some.injEq] at this
        exact this
      have h3 := open_pair h1 h2
      have h4 := pairs_get _ _ _ hr
      have e0 : p10 (j * 2) = ((R[j]).1 : Nat) := by rw [hp10, h4.1]
      have e1 : p10 (j * 2 + 1) = ((R[j]).2 : Nat) := by rw [hp10, h4.2]
      rw [e0, e1, World.var?_cell g_p10 hv, World.var?_cell g_p10 hv, ← Array.getElem?_toList, ← Array.getElem?_toList]
      have k0 := congrArg (·[0]?) h3
      have k1 := congrArg (·[1]?) h3
      simp only [List.getElem?_take_of_lt (show 0 < 2 by decide), List.getElem?_take_of_lt (show 1 < 2 by decide), List.getElem?_drop, Nat.add_zero] at k0 k1
      exact ⟨k0, k1⟩
    intro i hi
    obtain ⟨j, rfl | rfl⟩ : ∃ j, i = j * 2 ∨ i = j * 2 + 1 := ⟨i / 2, by omega⟩
    · exact (key j (by omega)).1
    · exact (key j (by omega)).2
  obtain ⟨g, t, cs, fuel, p, hg, ht, hv, hd⟩ := h4
  obtain rfl := Option.some.inj (g_cheats.symm.trans hg)
  obtain rfl := Option.some.inj (t_cheats.symm.trans ht)
  rcases Deep.open_slice Tryz.underlying209 hd with ⟨_, hx⟩ | ⟨a, len, cap, m, n, D, Pl, hcs, _, hl, _, hm, hx, hel⟩
  · have hx1 : Rows.laid_internal_strconv_leftcheats = .nil := congrArg Prod.fst hx
    cases hx1
  · simp only [if_true] at hm
    subst hm
    have hx1 : DataW.slice (Pinned.cheatRows.map fun x => DataW.agg [DataW.lit (Lit.int IntKind.i64 x.1), DataW.lit (Lit.string x.2)]) [] = DataW.slice ((List.range len).map D) ((List.range (m - len)).map fun j => D (len + j)) := congrArg Prod.fst hx
    obtain ⟨hx2, hx3⟩ := DataW.slice.inj hx1
    have hrl : Pinned.cheatRows.length = 61 := by decide +kernel
    have hlen : len = 61 := by
      have := congrArg List.length hx2
      simp only [List.length_map, List.length_range] at this
      omega
    have hcap : m = 61 := by
      have := congrArg List.length hx3
      simp only [List.length_map, List.length_range, List.length_nil] at this
      omega
    subst hlen hcap
    have hrow : ∀ i, i < 61 → W.cell? ((a.add (i * 2)).add 0) = some (.int .i64 ((Pinned.cheatRows.getD i (0, [])).1 : Int)) ∧ W.cell? ((a.add (i * 2)).add 1) = some (.string ⟨((Pinned.cheatRows.getD i (0, [])).2).toArray⟩) := by
      intro i hi
      obtain ⟨us, h1, h2⟩ := hel i hi
      rw [cells208] at h1
      obtain ⟨_, _, h3⟩ := World.cells?_some h1
      have hr : Pinned.cheatRows[i]? = some Pinned.cheatRows[i] := List.getElem?_eq_getElem (by omega)
      have hD : D i = DataW.agg [DataW.lit (Lit.int IntKind.i64 (Pinned.cheatRows.getD i (0, [])).1), DataW.lit (Lit.string (Pinned.cheatRows.getD i (0, [])).2)] := by
        have := congrArg (·[i]?) hx2
        simp only [List.getElem?_map, hr, List.getElem?_range hi, Option.map_some, Option.some.injEq] at this
        rw [← this, List.getD_eq_getElem?_getD, hr]
        rfl
      have h4 := open_cheat h2 hD
      rw [h3 0 (by decide), h3 1 (by decide), h4]
      exact ⟨rfl, rfl⟩
    obtain ⟨b, o, spot⟩ := a
    have hspot : spot = none := by
      have := World.cell?_spot (hrow 0 (by decide)).1
      simpa [Addr.add] using this
    subst hspot
    simp only [add_plain, Nat.add_zero] at hrow
    have hb := cellLt (hrow 0 (by decide)).1
    have hc3 : W.cell? ⟨3, 0, none⟩ = some (.slice (some ⟨b, o, none⟩) 61 61) := by
      rw [World.var?_cell g_cheats hv 0, ← Array.getElem?_toList, hcs]
      rfl
    exact ⟨cellLt hc3, opt, u10, p10', b, o, hb, hc3, hrow⟩
end Go.Proofs.YtfbgnonnbcejkaaGreatDoor
