/- Lemmas on the way to the law FnWKTParts, without conditions beside those that each states: A world in which the row's tables are laid: the witness | The witness: the great table's share, by law. -/
import Derived.Test.YtfbgnonnbcejkaaGreatDoorY44
import Derived.Lib.LaidIn
import Derived.Deep.DeepWitnessRowRef
namespace Go.Proofs.YtfbgnonnbcejkaaGreatDoor
open Go.RowKit Go.ChangeShapes Go.WideShapes
open Go.Lib (tabData TabIs)

noncomputable abbrev N0 : Nat := (World.settled Tryz.prog default).heap.size
def p10Cells : List Value := Pinned.pow10Rows.flatMap fun x => [.int .u64 x.1, .int .u64 x.2]
def cheatCells : List Value := Pinned.cheatRows.flatMap fun x => [.int .i64 x.1, .string ⟨x.2.toArray⟩]
def litCells (d : DataW Unit) : Array Value := match d with
  | .agg l => (l.map fun x => match x with | .lit (.int k n) => Value.int k n | _ => .int .i64 0).toArray
  | _ => #[]
/-- The settled world, with one block more for leftcheats; the six variables hold what their initialisers lay. -/
noncomputable def laidWorld (os : Os) : World :=
  let N := (World.settled Tryz.prog os).heap.size
  let w0 := World.holding Tryz.prog os ⟨#[.cells cheatCells.toArray 208], #[], []⟩
  let put (h : Array Obj) (g : Nat) (cs : Array Value) : Array Obj := h.modify g fun
    | .cells _ t frozen => .cells cs t frozen
    | o => o
  let h0 := put w0.heap 0 #[.bool true]
  let h1 := put h0 1 (u10Z.map fun z => Value.int .u64 z).toArray
  let h2 := put h1 2 p10Cells.toArray
  let h3 := put h2 3 #[.slice (some ⟨N, 0, none⟩) 61 61]
  let h4 := put h3 4 (litCells Rows.laid_math_bits_deBruijn32tab)
  let h5 := put h4 5 (litCells Rows.laid_math_bits_deBruijn64tab)
  { w0 with heap := h5 }
noncomputable abbrev memW (os : Os) (args : Array Value) : World := ((laidWorld os).forCall (fun _ _ => 0) ⟨#[], args, []⟩).memory
theorem piece0 (os : Os) (args : Array Value) : LaidIn Tryz.prog (memW os args) [("math/bits.deBruijn32tab", Rows.laid_math_bits_deBruijn32tab), ("math/bits.deBruijn64tab", Rows.laid_math_bits_deBruijn64tab), ("internal/strconv.optimize", Rows.laid_internal_strconv_optimize), ("internal/strconv.uint64pow10", Rows.laid_internal_strconv_uint64pow10)] [4, 5, 0, 1] :=
  LaidIn.of_run [4, 5, 0, 1] 8 (by kernel_rfl) (by kernel_rfl) (by kernel_rfl) (by kernel_rfl)
theorem piece1 (os : Os) (args : Array Value) : LaidIn Tryz.prog (memW os args) [("internal/strconv.leftcheats", Rows.laid_internal_strconv_leftcheats)] [3, N0] :=
  LaidIn.of_run [3, N0] 8 (by kernel_rfl) (by kernel_rfl) (by kernel_rfl) (by kernel_rfl)
end Go.Proofs.YtfbgnonnbcejkaaGreatDoor
namespace Go.Proofs.YtfbgnonnbcejkaaGreatDoor
open Go.RowKit Go.ChangeShapes Go.WideShapes

theorem mapM_all {α β : Type} {f : α → Option β} : ∀ (l : List α) (xs : List β), l.length = xs.length → (∀ (i : Nat) (a : α), l[i]? = some a → f a = xs[i]?) → l.mapM f = some xs
  | [], [], _, _ => by simp
  | a :: l, x :: xs, hl, h => by
    have h0 := h 0 a rfl
    have hr := mapM_all l xs (by simpa using hl) (fun i b hb => by simpa using h (i + 1) b (by simpa using hb))
    rw [List.mapM_cons, h0, hr]
    rfl
theorem trod_array_mk {H : Type} {enc : TypeId × Value → H} {P : Program} {w : World} {base : Nat} {spare : Nat → Bool} {held : Bool} {t e : TypeId} {n m : Nat} {cs : List Value} {xs : List (DataW H × List MemPlace)} (ht : P.underlying t = some (.array n e)) (hl : cs.length = P.cellsOf t)
    (hp : (List.range n).mapM (fun i => DataW.trod enc P w base spare held m e ((cs.drop (i * P.cellsOf e)).take (P.cellsOf e))) = some xs) :
    DataW.trod enc P w base spare held (m + 1) t cs = some (.agg (xs.map (·.1)), xs.flatMap (·.2)) := by
  unfold DataW.trod
  rw [ht]
  split <;> simp_all
theorem pairs_take (R : List (Nat × Nat)) (f g : Nat → Value) : ∀ (l : List (Nat × Nat)) (j : Nat) (x : Nat × Nat), l[j]? = some x → ((l.flatMap fun x => [f x.1, g x.2]).drop (j * 2)).take 2 = [f x.1, g x.2]
  | [], _, _, h => by simp at h
  | y :: r, 0, x, h => by
    simp only [List.getElem?_cons_zero, Option.some.injEq] at h
    subst h
    rfl
  | y :: r, j + 1, x, h => by
    have := pairs_take R f g r j x (by simpa using h)
    rw [List.flatMap_cons, show (j + 1) * 2 = j * 2 + 1 + 1 by omega]
    exact this
theorem pairs_len (f g : Nat → Value) : ∀ l : List (Nat × Nat), (l.flatMap fun x => [f x.1, g x.2]).length = 2 * l.length
  | [] => rfl
  | x :: r => by rw [List.flatMap_cons, List.length_append, pairs_len f g r, List.length_cons]; simp; omega
theorem rows696 : Pinned.pow10Rows.length = 696 := by decide +kernel
theorem rows_small : ∀ x ∈ Pinned.pow10Rows, x.1 < 18446744073709551616 ∧ x.2 < 18446744073709551616 := by
  intro x hx
  have h := List.all_eq_true.1 p10L_small
  have h1 : x.1 ∈ p10L := List.mem_flatMap.2 ⟨x, hx, by simp⟩
  have h2 : x.2 ∈ p10L := List.mem_flatMap.2 ⟨x, hx, by simp⟩
  exact ⟨of_decide_eq_true (h _ h1), of_decide_eq_true (h _ h2)⟩
theorem cells_len : p10Cells.length = 1392 := by
  unfold p10Cells
  rw [pairs_len (fun n => .int .u64 n) (fun n => .int .u64 n), rows696]
theorem cells_u64 : ∀ v ∈ p10Cells, ∃ n : Nat, n < 18446744073709551616 ∧ v = .int .u64 n := by
  intro v hv
  obtain ⟨x, hx, h⟩ := List.mem_flatMap.1 hv
  have hs := rows_small x hx
  rcases List.mem_cons.1 h with rfl | h
  · exact ⟨x.1, hs.1, rfl⟩
  · rcases List.mem_cons.1 h with rfl | h
    · exact ⟨x.2, hs.2, rfl⟩
    · exact absurd h (by simp)
theorem wf_u64 (n : Nat) (h : n < 18446744073709551616) : (Lit.int .u64 n).wf = true := by
  simp [Lit.wf, IntKind.min, IntKind.max, IntKind.signed, IntKind.bits]
  omega
theorem trod_pair (w : World) (a b : Nat) (ha : a < 18446744073709551616) (hb : b < 18446744073709551616) : DataW.trod (fun _ => ()) Tryz.prog w 0 (fun _ => true) false 7 201 [.int .u64 a, .int .u64 b] = some (.agg [.lit (.int .u64 a), .lit (.int .u64 b)], []) := by
  have h0 : DataW.trod (fun _ => ()) Tryz.prog w 0 (fun _ => true) false 6 159 [.int .u64 a] = some (.lit (.int .u64 a), []) := trod_int_mk 5 Tryz.underlying159 (wf_u64 _ ha)
  have h1 : DataW.trod (fun _ => ()) Tryz.prog w 0 (fun _ => true) false 6 159 [.int .u64 b] = some (.lit (.int .u64 b), []) := trod_int_mk 5 Tryz.underlying159 (wf_u64 _ hb)
  have h := trod_struct2_mk (enc := fun _ => ()) (w := w) (base := 0) (spare := fun _ => true) (held := false) (n := 6) (cs := [.int .u64 a, .int .u64 b]) (y0 := (.lit (.int .u64 a), [])) (y1 := (.lit (.int .u64 b), [])) Tryz.underlying201 (by rw [cells201]; rfl)
    (by dsimp only; rw [cells159]; exact h0) (by dsimp only; rw [cells159]; exact h1)
  exact h
set_option maxRecDepth 100000 in
theorem trod_p10 (w : World) : DataW.trod (fun _ => ()) Tryz.prog w 0 (fun _ => true) false 8 202 p10Cells = some (Rows.laid_internal_strconv_pow10Tab, []) := by
  have hs := rows_small
  have hlen := rows696
  have hl := cells_len
  have hd : (Rows.laid_internal_strconv_pow10Tab : DataW Unit) = .agg (Pinned.pow10Rows.map fun x => DataW.agg [DataW.lit (Lit.int IntKind.u64 x.1), DataW.lit (Lit.int IntKind.u64 x.2)]) := rfl
  rw [hd]
  unfold p10Cells at hl ⊢
  generalize Pinned.pow10Rows = R at hs hlen hl ⊢
  have h := trod_array_mk (enc := fun _ => ()) (w := w) (base := 0) (spare := fun _ => true) (held := false) (m := 7) (cs := R.flatMap fun x => [.int .u64 x.1, .int .u64 x.2]) (xs := R.map fun x => (DataW.agg [DataW.lit (Lit.int IntKind.u64 x.1), DataW.lit (Lit.int IntKind.u64 x.2)], [])) Tryz.underlying202 (by rw [hl, cells202]) (by
    refine mapM_all _ _ (by rw [List.length_range, List.length_map, hlen]) (fun i a ha => ?_)
    obtain ⟨hi, rfl⟩ : i < 696 ∧ i = a := by
      obtain ⟨hi, he⟩ := List.getElem?_eq_some_iff.1 ha
      rw [List.getElem_range] at he
      exact ⟨by rw [List.length_range] at hi; exact hi, he⟩
    clear ha
    have hiR : i < R.length := by rw [hlen]; exact hi
    have hr : R[i]? = some R[i] := List.getElem?_eq_getElem hiR
    rw [cells201, pairs_take R (fun n => .int .u64 n) (fun n => .int .u64 n) R i _ hr, List.getElem?_map, hr]
    have hsm := hs R[i] (List.getElem_mem _)
    exact trod_pair w _ _ hsm.1 hsm.2)
  rw [h]
  simp only [List.map_map, List.flatMap_map, Option.some.injEq, Prod.mk.injEq]
  exact ⟨rfl, by simp⟩
theorem heap2 (os : Os) (args : Array Value) : (memW os args).heap[2]? = some (.cells p10Cells.toArray 202 (0, 0)) := by kernel_rfl
set_option maxRecDepth 100000 in
theorem piece2 (os : Os) (args : Array Value) : LaidIn Tryz.prog (memW os args) [("internal/strconv.pow10Tab", Rows.laid_internal_strconv_pow10Tab)] [2] := by
  have hh := heap2 os args
  generalize memW os args = w at hh ⊢
  refine LaidIn.one (g := 2) (t := 202) (cs := p10Cells.toArray) (fuel := 8) (p := []) [2] g_p10 t_p10 ?_ (trod_p10 w) ?_ ?_ ?_
  · simp only [World.var?, g_p10, Option.bind_some, hh]
  · rw [List.append_nil]; exact rowP_nodup _ _
  · intro b off hp
    rw [List.append_nil] at hp
    obtain ⟨i, hi, he⟩ := MemPlace.mem_row.1 hp
    cases he
    refine ⟨⟨_, _, hh⟩, fun u v hc => ?_⟩
    rw [Lib.cell_of_heap hh] at hc
    have hm : Value.iface u v ∈ p10Cells := by
      rw [List.getElem?_toArray] at hc
      exact List.mem_of_getElem? hc
    obtain ⟨n, hq, hn⟩ := cells_u64 _ hm
    exact Value.noConfusion hn
  · intro x hx
    rw [List.append_nil] at hx
    obtain ⟨i, _, rfl⟩ := MemPlace.mem_row.1 hx
    exact .head _
theorem laid_met (os : Os) (args : Array Value) : laidMet Tryz.prog Rows.fnWKTPartsUptoRow.laid (memW os args) :=
  (((piece0 os args).append (piece1 os args) (by kernel_rfl)).append (piece2 os args) (by kernel_rfl)).met
theorem laid_metH (os : Os) (args : Array Value) : laidMetH Tryz.prog Rows.fnWKTPartsUptoRow.laid (memW os args) := by
  unfold laidMetH
  rw [noHandles]
  exact laid_met os args
theorem ct202 : Tryz.prog.cellTypes Tryz.prog.depth 202 = some (List.replicate 1392 159) := by kernel_rfl
theorem z202 : ((begin Tryz.prog (fun _ _ => 0) default).world.heap[2]?).bind Obj.row? = some (Array.replicate 1392 (.int .u64 0), 202) := by kernel_rfl
theorem gsz : Tryz.prog.globals.size = 6 := by kernel_rfl
set_option maxRecDepth 100000 in
theorem okRef2 (w : World) : Row.okRefB Tryz.prog w 202 p10Cells.toArray = true := by
  unfold Row.okRefB
  rw [ct202]
  simp only [List.size_toArray, cells_len, List.length_replicate, Bool.and_eq_true, beq_iff_eq, List.all_eq_true, List.mem_range]
  refine ⟨trivial, fun i hi => ?_⟩
  have hi' : i < p10Cells.length := by rw [cells_len]; exact hi
  rw [List.getElem?_toArray, List.getElem?_eq_getElem hi', List.getElem?_replicate, if_pos (Nat.mod_lt _ (by decide))]
  obtain ⟨n, hn, he⟩ := cells_u64 _ (List.getElem_mem hi')
  rw [he]
  show Cell.okRefB Tryz.prog w 159 (.int .u64 n) = true
  unfold Cell.okRefB
  rw [Tryz.underlying159]
  show Cell.okB Tryz.prog 159 (.int .u64 n) = true
  unfold Cell.okB
  rw [Tryz.underlying159]
  have := wf_u64 n hn
  simp only [Lit.wf, Bool.and_eq_true, decide_eq_true_eq] at this
  simp only [decide_true, Bool.true_and, Bool.and_eq_true, decide_eq_true_eq]
  exact this
set_option maxRecDepth 100000 in
theorem vref (os : Os) (args : Array Value) : ((laidWorld os).forCall (fun _ _ => 0) ⟨#[], args, []⟩).variablesRefB Tryz.prog = true := by
  have hh : ((laidWorld os).forCall (fun _ _ => 0) ⟨#[], args, []⟩).heap[2]? = some (.cells p10Cells.toArray 202 (0, 0)) := heap2 os args
  unfold World.variablesRefB
  rw [gsz]
  rw [List.all_eq_true]
  intro g hg
  have hg6 : g < 6 := List.mem_range.1 hg
  obtain rfl | rfl | rfl | rfl | rfl | rfl : g = 0 ∨ g = 1 ∨ g = 2 ∨ g = 3 ∨ g = 4 ∨ g = 5 := by omega
  · show _ = true
    kernel_rfl
  · show _ = true
    kernel_rfl
  · rw [z202, hh]
    dsimp only
    rw [okRef2, List.size_toArray, cells_len, Array.size_replicate]
    simp
  · show _ = true
    kernel_rfl
  · show _ = true
    kernel_rfl
  · show _ = true
    kernel_rfl
end Go.Proofs.YtfbgnonnbcejkaaGreatDoor
