/- Lemmas on the way to the law FnWKTParts, without conditions beside those that each states: The makers of multi points. -/
import Derived.Test.YtfbgnonnbcejkaaGreatDoorY09
import Derived.Lib.SliceRun
namespace Go.Proofs.YtfbgnonnbcejkaaGreatDoor
open Go.RowKit

theorem optEnds_c (a : Option Addr) (n m : Nat) (w : World) : Calls Tryz.prog 38 #[.slice a n m] w fun e w' => e = .returned (.func (.func 53) #[] #[.pointer (some ⟨w.heap.size, 0, none⟩)]) ∧ w' = w.alloc (.cells #[.slice a n m] 23) := by
  go_enter Tryz.func38, Tryz.ntmps38
  go_wp2
  go_ret
  exact ⟨rfl, rfl⟩
theorem optApply_c (b be : Nat) (a : Option Addr) (n m : Nat) (u : Value) (w : World) (he : w.cell? ⟨be, 0, none⟩ = some (.slice a n m)) (hc : w.cell? ⟨b, 4, none⟩ = some u) (hf : w.frozen? ⟨b, 4, none⟩ = false) :
    Calls Tryz.prog 53 #[.pointer (some ⟨b, 0, none⟩), .pointer (some ⟨be, 0, none⟩)] w fun e w' => e = .returned (.tuple #[]) ∧ w' = w.setCell ⟨b, 4, none⟩ (.slice a n m) := by
  go_enter Tryz.func53, Tryz.ntmps53
  go_wp2
  go_end0
  exact ⟨rfl, rfl⟩

set_option maxHeartbeats 3200000 in
theorem mpointNew_c (l : Int) (hl : 0 ≤ l) (a3 : Option Addr) (n3 m3 : Nat) (a4 : Option Addr) (n4 m4 bs be : Nat) (hn : a4 = none → n3 = 0) (w : World) (hbs : w.cell? ⟨bs, 0, none⟩ = some (.func (.func 53) #[] #[.pointer (some ⟨be, 0, none⟩)])) (hbe : w.cell? ⟨be, 0, none⟩ = some (.slice a4 n4 m4))
    (hbsl : bs < w.heap.size) (hbel : be < w.heap.size) :
    Calls Tryz.prog 37 #[.int .i64 l, .slice a3 n3 m3, .slice (some ⟨bs, 0, none⟩) 1 1] w fun e w' => e = .returned (.pointer (some ⟨w.heap.size, 0, none⟩)) ∧ w' = w.alloc (.cells #[.int .i64 l, .int .i64 (strideF l), .slice a3 n3 m3, .int .i64 0, .slice a4 n4 m4] 112) := by
  have hC := Lib.hid (fun w' => layStride_c l hl w')
  have q23 : ∀ (w : World) (a : Option Addr) (n c n' c' : Nat), (binOp .eql 23 (.slice a n c) (.slice none n' c')).run Tryz.prog w = .ok (.bool a.isNone) w := fun w a n c n' c' => Lib.run_eql_slice_nil w _ _ a n c n' c' Tryz.underlying23
  generalize strideF l = st at *
  go_enter Tryz.func37, Tryz.ntmps37
  go_wp2_with (go_at_call 52; refine (hC.out _).mono ?_; rintro e w3 ⟨rfl, rfl⟩)
  go_loopw [37] (fun i wr => (i = .int .i64 0 ∧ wr = w.alloc (.cells #[.int .i64 l, .int .i64 st, .slice a3 n3 m3, .int .i64 0, .slice none 0 0] 112)) ∨ (i = .int .i64 1 ∧ wr = w.alloc (.cells #[.int .i64 l, .int .i64 st, .slice a3 n3 m3, .int .i64 0, .slice a4 n4 m4] 112))) (fun i _ => 1 - (intOf i).toNat)
  case atStart => exact Or.inl ⟨rfl, rfl⟩
  case round =>
    rcases hrel with ⟨rfl, rfl⟩ | ⟨rfl, rfl⟩
    · have d0 : (w.alloc (.cells #[.int .i64 l, .int .i64 st, .slice a3 n3 m3, .int .i64 0, .slice none 0 0] 112)).cell? ⟨bs, 0, none⟩ = some (.func (.func 53) #[] #[.pointer (some ⟨be, 0, none⟩)]) := (Below.refl w.heap.size w |>.alloc (Nat.le_refl _) _).cell hbsl |>.trans hbs
      have d1 : (w.alloc (.cells #[.int .i64 l, .int .i64 st, .slice a3 n3 m3, .int .i64 0, .slice none 0 0] 112)).cell? ⟨be, 0, none⟩ = some (.slice a4 n4 m4) := (Below.refl w.heap.size w |>.alloc (Nat.le_refl _) _).cell hbel |>.trans hbe
      have d2 : (w.alloc (.cells #[.int .i64 l, .int .i64 st, .slice a3 n3 m3, .int .i64 0, .slice none 0 0] 112)).cell? ⟨w.heap.size, 4, none⟩ = some (.slice none 0 0) := by rw [World.cell?_alloc_new]; rfl
      have d3 : (w.alloc (.cells #[.int .i64 l, .int .i64 st, .slice a3 n3 m3, .int .i64 0, .slice none 0 0] 112)).frozen? ⟨w.heap.size, 4, none⟩ = false := World.frozen?_alloc_at _ _ _ _ rfl
      go_wp2_with (go_at_call 53; refine (optApply_c w.heap.size be a4 n4 m4 _ _ d1 d2 d3).mono ?_; rintro e w3 ⟨rfl, rfl⟩)
      go_roundw
      case rel => exact Or.inr ⟨rfl, trivial⟩
      case measure => simp [intOf]
    · rcases a4 with _ | q4
      · have hz : n3 = 0 := hn rfl
        subst hz
        go_wp2
        go_ret
        exact ⟨rfl, rfl⟩
      · go_wp2
        go_ret
        exact ⟨rfl, rfl⟩
end Go.Proofs.YtfbgnonnbcejkaaGreatDoor
