/- For every input of bulk at most 1048576 the law FnWKTParts returns true and each argument reads behind the call as it read before; no condition is set beside what the given statement says. -/
import Derived.Test.YtfbgnonnbcejkaaGreatDoorY45
import Derived.Test.YtfbgnonnbcejkaaGreatDoorY40
import Derived.Test.YtfbgnonnbcejkaaGreatDoorCards
import Derived.Test.YtfbgnonnbcejkaaGreatDoorTie
import Derived.WalkKit
import Derived.ProofKit
import Derived.OpenShut
import Derived.Deep.DeepHandedRow
import Derived.Carry
namespace Go.Proofs.YtfbgnonnbcejkaaGreatDoor
open Go.ChangeShapes Go.WideShapes Go.ChangeAt Go.RowKit
open Go.Proofs.YtfbgnonnbcejkaaGreatDoor.Rows (uptoBulk uptoBulkAll)

theorem own : ownKnob Tryz.prog.godebug = none := by kernel_rfl
theorem laidOut : laidOutB Tryz.prog = true := by kernel_rfl


set_option maxRecDepth 100000 in
theorem contract (H : Type) (enc : TypeId × Value → H) (W : World) (base : Nat) (args : Array Value) (ds gs : List (DataW H)) (before : List MemPlace)
    (hval : ∀ (j : Nat) t v, Tryz.f3.params[j]? = some t → args[j]? = some v → Value.okWide Tryz.prog W .any base t v)
    (hW : DataW.Whole enc Tryz.prog Tryz.f3.params.toList Rows.fnWKTPartsSpec.vars false W args.toList ds gs before)
    (hs : Rows.uptoSmall H (ds ++ gs) = true) (hL : laidMetH Tryz.prog Rows.fnWKTPartsUptoRow.laid W) :
    Calls Tryz.prog 3 args W fun e W' => ∃ v, e = .returned v ∧ Rows.fnWKTPartsSpec.post enc Tryz.prog Tryz.f3 false true false false W args v W' := by
  have hW' := hW
  obtain ⟨p, q, hA0, hV, rfl, _, _⟩ := hW
  have hA : DataW.TrodAll enc Tryz.prog W 0 (fun _ => true) true Tryz.f3.params.toList args.toList ds p := hA0
  rw [Tryz.params3] at hA hval
  obtain ⟨v0, v1, d0, d1, p0, p1, rfl, rfl, rfl, h0, h1⟩ := trodAll_two hA
  obtain ⟨rfl, rfl⟩ := trodVars_none hV
  have hsm : uptoBulkAll ([d0, d1] ++ []) ≤ 1048576 := of_decide_eq_true hs
  simp only [List.append_nil, uptoBulkAll] at hsm
  simp only [List.append_nil] at hW'
  have hlt : ∀ x ∈ p0 ++ p1, x.block < W.heap.size := fun x hx => by simpa using hW'.lt x hx
  have h0k := h0
  have h1k := h1
  obtain ⟨fuel0, hf0⟩ := h0
  obtain ⟨prec, rfl⟩ := okWide_int Tryz.underlying3 (hval 1 3 v1 rfl rfl)
  obtain ⟨g, hg, hw⟩ := open_geo (uptoBulk d0) fuel0 _ _ (Nat.le_refl _) (by omega) hf0
  obtain ⟨cs, rfl⟩ : ∃ cs, v0 = .agg cs := by
    obtain ⟨q0, q1, q2, b3, b4, b5, b6, n3, n4, n5, n6, m3, m4, m5, m6, hvs⟩ := hg.seven
    cases v0 <;> first | exact ⟨_, rfl⟩ | (have := congrArg List.length hvs; simp [Value.cells] at this)
  clear hA0 hV hA hval
  cases g with
  | mk k l s f e ee kids =>
  have hwalk : Calls Tryz.prog 3 #[.agg cs, .int .i64 prec] W fun en w' => en = .returned (.bool true) ∧ Below W.heap.size W w' :=
    law_c W.heap.size W cs.toList k l s f e ee kids hg (Nat.le_refl _) (by have : uptoBulk (d0, p0).1 = uptoBulk d0 := rfl; omega) prec (tabs_of_laid hL) (lenOk prec) (fun a b g _ h => text_len prec a b g h)
  refine hwalk.mono fun en W' ⟨he, bel⟩ => ?_
  subst he
  have e1 : Rows.fnWKTPartsSpec.fn H ([d0, d1] ++ []) = { results := [.lit (.bool true)], args := [d0, d1] } := rfl
  refine ⟨_, rfl, _, _, _, [], p0 ++ p1, [], hW', ?_, ?_, ?_, bel.frame _, fun h => by cases h⟩
  · rw [e1]; exact trodAll_mk1 (shut_bool Tryz.underlying4 _)
  · rw [e1]; exact trodAll_mk2 (Below.trod laidOut (by kernel_rfl) (of_decide_eq_true (by kernel_rfl)) h0k bel (fun x hx => hlt x (by simp [hx]))) (Below.trod laidOut (by kernel_rfl) (of_decide_eq_true (by kernel_rfl)) h1k bel (fun x hx => hlt x (by simp [hx])))
  · rw [e1]; rfl

noncomputable abbrev wArgs : Array Value := #[.agg #[.int .i64 1, .int .i64 1, .int .i64 0, .slice none 0 0, .slice none 0 0, .slice none 0 0, .slice none 0 0], .int .i64 0]
theorem okIn (os : Os) : Input.okWideB Tryz.prog ((laidWorld os).forCall (fun _ _ => 0) ⟨#[], wArgs, []⟩) 3 ⟨#[], wArgs, []⟩ = true := by kernel_rfl
theorem restIn (os : Os) (args : Array Value) : (((laidWorld os).forCall (fun _ _ => 0) ⟨#[], args, []⟩).heap.toList.drop Tryz.prog.globals.size).take ((begin Tryz.prog (fun _ _ => 0) default).world.heap.size - Tryz.prog.globals.size) =
      (begin Tryz.prog (fun _ _ => 0) default).world.heap.toList.drop Tryz.prog.globals.size := by kernel_rfl
theorem reads (os : Os) {H : Type} (enc : TypeId × Value → H) : ∃ places, DataW.whole enc Tryz.prog (memW os wArgs) Tryz.f3.params.toList Rows.fnWKTPartsSpec.vars false wArgs.toList 8 =
    some ([.agg [.lit (.int .i64 1), .lit (.int .i64 1), .lit (.int .i64 0), .nil, .nil, .nil, .nil], .lit (.int .i64 0)], [], places) := ⟨[], by kernel_rfl⟩

set_option maxRecDepth 100000 in
theorem lifted (os : Os) (started : os.Started) (H : Type) (enc : TypeId × Value → H) (F : Stop.Interp) :
    ReturnsInHanded {} Tryz.checked os 3 .any ((Rows.OpenSpec.upto Rows.fnWKTPartsSpec).preRow enc Tryz.prog Tryz.f3 Rows.fnWKTPartsUptoRow.domain false Rows.fnWKTPartsUptoRow.laid) (((Rows.OpenSpec.upto Rows.fnWKTPartsSpec).at F).post enc Tryz.prog Tryz.f3 false true false false) := by
  obtain ⟨places, hx⟩ := reads os enc
  refine returnsInHanded_of_row (C := Tryz.checked) (s := Rows.OpenSpec.upto Rows.fnWKTPartsSpec) own started (by kernel_rfl) Tryz.func3
    (witness_row_atRef (enc := enc) (C := Tryz.checked) false (laidWorld os) wArgs rfl (vref os wArgs) (restIn os wArgs) (okIn os)
      (OpenSpec.preRow_of_cond 8 hx (by kernel_rfl) (fun k hk => by cases hk; kernel_rfl) (by kernel_rfl) (laid_met os wArgs))) ?_
  intro W base args ds gs before hval hW _ hcond _ hL _ _
  exact contract H enc W base args ds gs before hval hW (hcond _ rfl) hL
theorem said : Rows.FnWKTPartsUptoSaid :=
  OpenClaim.holds_of_cond 3 Tryz.f3 rfl rfl rfl rfl rfl rfl rfl ⟨rfl, rfl, rfl, rfl, rfl⟩ rfl rfl rfl rfl rfl (by kernel_rfl) Tryz.func3 (by kernel_rfl)
    (of_decide_eq_true (by kernel_rfl)) (by unfold Func.isWrapper; first | (rw [if_pos (by decide +kernel)]; kernel_rfl) | (rw [if_neg (by decide +kernel)]; exact ⟨rfl, rfl⟩))
    (fun os started H enc _ F => by rw [OpenClaim.pre_eq_preRow]; exact lifted os started H enc F)
theorem plain (f : FuncId) (fn : Func) (hf : Tryz.pinned.checked.prog.funcNamed "pub-orthodrome/laws.FnWKTParts" = some f) (hfn : Tryz.pinned.checked.prog.funcs[f]? = some fn) :
    true = Tryz.pinned.checked.prog.looks [] ∧ ∀ (j : Nat) t, fn.params[j]? = some t → Tryz.pinned.checked.prog.wantsStandIn t = false := by
  obtain rfl : f = 3 := Option.some.inj ((show Tryz.prog.funcNamed "pub-orthodrome/laws.FnWKTParts" = some 3 by kernel_rfl).symm.trans hf) |>.symm
  obtain rfl : fn = Tryz.f3 := (Option.some.inj (Tryz.func3.symm.trans hfn)).symm
  refine ⟨by kernel_rfl, fun j t ht => ?_⟩
  rw [Tryz.params3] at ht
  obtain rfl | rfl : t = 27 ∨ t = 3 := by simpa using Array.mem_of_getElem? ht
  · exact (show Tryz.prog.wantsStandIn 27 = false by kernel_rfl)
  · exact (show Tryz.prog.wantsStandIn 3 = false by kernel_rfl)
/-- The card. -/
theorem card : Rows.FnWKTPartsUptoCardSaid :=
  Claim7.holds_tied_plain_at .later [] _ _ _ _ said (fun _ h => by cases h) (by kernel_rfl) (fun _ h => by cases h) fnWKTPartsUpto_row_tie rfl ⟨rfl, rfl⟩ (by kernel_rfl) rfl plain (by kernel_rfl)
#print axioms card
end Go.Proofs.YtfbgnonnbcejkaaGreatDoor
