/- Lemmas on the way to the law FnWKTParts, without conditions beside those that each states: WriteWKT. -/
import Derived.Test.YtfbgnonnbcejkaaGreatDoorY40
import Derived.Defers
import Derived.Recover
namespace Go.Proofs.YtfbgnonnbcejkaaGreatDoor
open Go.RowKit

theorem catch_idle (p q : Addr) (w : World) :
    CallsD Tryz.prog 17 #[.pointer (some p), .pointer (some q)] .returning w fun e u' w' => e = .returned (.tuple #[]) ∧ u' = .returning ∧ w' = w := by
  refine callsD_of_wpS Tryz.func17 rfl fun c₀ cs hu => ?_
  apply wpS_seq
  apply wpS_region
  simp [wpOpsS, go_sem, recoverD, hu, Tryz.ntmps17, Exit.thenS]
  refine wpS_cond (t := false) (by simp [Act.eval, Array.replicate]) ?_
  simp only [Bool.false_eq_true, if_false]
  refine wpS_of_wp (wp_skip ?_)
  cases c₀
  simp_all [bodyPostS, results, Tryz.results17]

set_option maxHeartbeats 6400000 in
theorem writeWKT_c (K : Nat) (prec : Int) (v : Value) (g : Geo) (w : World) (T : Tabs w.heap.size w) (hp0 : -1 ≤ prec) (hp1 : prec ≤ 20) (hL : LenOk prec) (hg : goodF g = true) (hl : gLayF 4 g = true) (ho : GeoAt K w v g) (hK : K ≤ w.heap.size) (hlen : (textF (numF prec) g).length ≤ 140737488355000) :
    Calls Tryz.prog 10 #[v, .int .i64 prec] w fun e w' => e = .returned (.tuple #[.string ⟨(textF (numF prec) g).toArray⟩, .bool true]) ∧ Below w.heap.size w w' := by
  have hmf : ∀ (fn : Fn) (first cap : Array Value) (w : World), (Instr.makeFunc fn first cap).run Tryz.prog w = .ok (.func fn first cap) w := fun _ _ _ _ => rfl
  obtain ⟨vs, rfl, hv⟩ := ho
  obtain ⟨q0, q1, q2, b3, b4, b5, b6, n3, n4, n5, n6, m3, m4, m5, m6, rfl⟩ := hv.seven
  have hG := Lib.hid (fun w' (hb : Below w.heap.size w w') => geo_c _ g (Nat.le_refl _) hg hl K w' _ ⟨_, rfl, GeoVs.below (hb.mono hK) _ _ hv⟩ (Nat.le_trans hK hb.size))
  have hM := Lib.hid (fun (bs be : Nat) (v : Value) (w' : World) (hb : Below w.heap.size w w') => marshal_c bs be prec v g w' ((T.below hb).up hb.size) hp0 hp1 hL hg hl)
  have Hlen := Lib.hid hlen
  clear hv hlen T hL
  go_enter_defers Tryz.func10, Tryz.ntmps10
  go_wp2_with fail
  have hb3 : Below w.heap.size w (((w.alloc (.cells #[.int .i64 q0, .int .i64 q1, .int .i64 q2, .slice b3 n3 m3, .slice b4 n4 m4, .slice b5 n5 m5, .slice b6 n6 m6] 27)).alloc (.cells #[.string { data := #[] }] 9)).alloc (.cells #[.bool false] 4)) :=
    (((Below.refl _ w).alloc (Nat.le_refl _) _).alloc (by rw [World.size_alloc]; omega) _).alloc (by rw [World.size_alloc, World.size_alloc]; omega) _
  have hs3 : (((w.alloc (.cells #[.int .i64 q0, .int .i64 q1, .int .i64 q2, .slice b3 n3 m3, .slice b4 n4 m4, .slice b5 n5 m5, .slice b6 n6 m6] 27)).alloc (.cells #[.string { data := #[] }] 9)).alloc (.cells #[.bool false] 4)).heap.size = w.heap.size + 3 := by rw [World.size_alloc, World.size_alloc, World.size_alloc]
  have hk1 : (((w.alloc (.cells #[.int .i64 q0, .int .i64 q1, .int .i64 q2, .slice b3 n3 m3, .slice b4 n4 m4, .slice b5 n5 m5, .slice b6 n6 m6] 27)).alloc (.cells #[.string { data := #[] }] 9)).alloc (.cells #[.bool false] 4)).heap[w.heap.size + 1]? = some (.cells #[.string { data := #[] }] 9 (0, 0)) := by
    have := Lib.alloc_old ((w.alloc (.cells #[.int .i64 q0, .int .i64 q1, .int .i64 q2, .slice b3 n3 m3, .slice b4 n4 m4, .slice b5 n5 m5, .slice b6 n6 m6] 27)).alloc (.cells #[.string { data := #[] }] 9)) (.cells #[.bool false] 4) (w.heap.size + 1) (by rw [World.size_alloc, World.size_alloc]; omega)
    rw [this]
    have := heap_alloc_new (w.alloc (.cells #[.int .i64 q0, .int .i64 q1, .int .i64 q2, .slice b3 n3 m3, .slice b4 n4 m4, .slice b5 n5 m5, .slice b6 n6 m6] 27)) (.cells #[.string { data := #[] }] 9)
    rw [World.size_alloc] at this
    exact this
  have hk2 : (((w.alloc (.cells #[.int .i64 q0, .int .i64 q1, .int .i64 q2, .slice b3 n3 m3, .slice b4 n4 m4, .slice b5 n5 m5, .slice b6 n6 m6] 27)).alloc (.cells #[.string { data := #[] }] 9)).alloc (.cells #[.bool false] 4)).heap[w.heap.size + 1 + 1]? = some (.cells #[.bool false] 4 (0, 0)) := by
    have := heap_alloc_new ((w.alloc (.cells #[.int .i64 q0, .int .i64 q1, .int .i64 q2, .slice b3 n3 m3, .slice b4 n4 m4, .slice b5 n5 m5, .slice b6 n6 m6] 27)).alloc (.cells #[.string { data := #[] }] 9)) (.cells #[.bool false] 4)
    rw [World.size_alloc, World.size_alloc] at this
    exact this
  generalize ((w.alloc (.cells #[.int .i64 q0, .int .i64 q1, .int .i64 q2, .slice b3 n3 m3, .slice b4 n4 m4, .slice b5 n5 m5, .slice b6 n6 m6] 27)).alloc (.cells #[.string { data := #[] }] 9)).alloc (.cells #[.bool false] 4) = w3 at *
  refine (hG.out _ hb3).mono ?_
  try simp only [and_imp, forall_exists_index]
  rintro e w4 bo rfl hobj hb4
  have hs4 := hb4.size
  have hq1 : ((w4.alloc (.cells #[.int .i64 prec] 3)).alloc (.cells #[.func (.func 49) #[] #[.pointer (some ⟨w4.heap.size, 0, none⟩)]] 47)).heap.size = w4.heap.size + 2 := by rw [World.size_alloc, World.size_alloc]
  have hb6 : Below w4.heap.size w4 ((w4.alloc (.cells #[.int .i64 prec] 3)).alloc (.cells #[.func (.func 49) #[] #[.pointer (some ⟨w4.heap.size, 0, none⟩)]] 47)) := ((Below.refl _ w4).alloc (Nat.le_refl _) _).alloc (by rw [World.size_alloc]; omega) _
  have ho6 : ObjAt (· < ((w4.alloc (.cells #[.int .i64 prec] 3)).alloc (.cells #[.func (.func 49) #[] #[.pointer (some ⟨w4.heap.size, 0, none⟩)]] 47)).heap.size) ((w4.alloc (.cells #[.int .i64 prec] 3)).alloc (.cells #[.func (.func 49) #[] #[.pointer (some ⟨w4.heap.size, 0, none⟩)]] 47)) (.iface (tidF g.kind) (.pointer (some ⟨bo, 0, none⟩))) g := by
    refine ObjAt.mono (fun b (hb : w3.heap.size ≤ b ∧ b < w4.heap.size) => ?_) _ _ (ObjAt.keep (fun b hb => hb6.block b hb.2) _ _ hobj)
    rw [hq1]
    omega
  have hM2 := Lib.hid (hM.out (w4.heap.size + 1) w4.heap.size _ _ (hb3.trans ((hb4.mono (by omega)).trans (hb6.mono (by omega)))) ho6 Hlen.out (newCell2 rfl) (oldCell2 rfl) (by rw [hq1]; omega) (by rw [hq1]; omega))
  have Hb3 := Lib.hid hb3
  have Hb4 := Lib.hid hb4
  have Hb6 := Lib.hid hb6
  have Hk1 := Lib.hid hk1
  have Hk2 := Lib.hid hk2
  have Hs3 := Lib.hid hs3
  have Hq1 := Lib.hid hq1
  generalize htx : textF (numF prec) g = tx at *
  have Htx := Lib.hid htx
  clear htx
  generalize tidF g.kind = tk at *
  clear hb3 hb4 hb6 hk1 hk2 ho6 hobj hq1
  go_wp2_with (first | (go_at_call 20; refine (opt_c _ _).mono ?_; rintro e5 w5 ⟨rfl, rfl⟩) | (go_at_call 18; refine hM2.out.mono ?_))
  try simp only [and_imp]
  rintro e7 w7 rfl hb7
  have hall : Below w3.heap.size w3 w7 := Hb4.out.trans ((Hb6.out.mono (by omega)).trans (hb7.mono (by have := Hq1.out; simp at *; omega)))
  have hj1 : w7.heap[w.heap.size + 1]? = some (.cells #[.string { data := #[] }] 9 (0, 0)) := by rw [hall.block _ (by omega)]; exact Hk1.out
  have hj2 : w7.heap[w.heap.size + 1 + 1]? = some (.cells #[.bool false] 4 (0, 0)) := by rw [hall.block _ (by omega)]; exact Hk2.out
  have c1 : w7.cell? ⟨w.heap.size + 1, 0, none⟩ = some (.string { data := #[] }) := by rw [Lib.cell_of_heap hj1]; rfl
  have c2 : w7.cell? ⟨w.heap.size + 1 + 1, 0, none⟩ = some (.bool false) := by rw [Lib.cell_of_heap hj2]; rfl
  have f1 : w7.frozen? ⟨w.heap.size + 1, 0, none⟩ = false := Lib.frozen_of_heap hj1 0
  have f2 : w7.frozen? ⟨w.heap.size + 1 + 1, 0, none⟩ = false := Lib.frozen_of_heap hj2 0
  have Hall := Lib.hid (Hb3.out.trans (hall.mono (by omega)))
  have Hj1 := Lib.hid hj1
  have Hj2 := Lib.hid hj2
  clear hall hj1 hj2 hb7 hs4
  go_wp2_with fail
  go_region
  all_goals
    go_wp2
    refine leaves_cons (f := 17) (args := #[.pointer (some ⟨w.heap.size + 1, 0, none⟩), .pointer (some ⟨w.heap.size + 1 + 1, 0, none⟩)]) (by simp) (by simp [go_sem]) ?_
    refine (catch_idle ⟨w.heap.size + 1, 0, none⟩ ⟨w.heap.size + 1 + 1, 0, none⟩ _).mono ?_
    rintro e8 u8 w8 ⟨rfl, rfl, rfl⟩
    simp [Leaves, settle, results, Tryz.results10, go_sem, c1, c2]
    exact ⟨Htx.out.symm, ((Hall.out.setCell (p := ⟨w.heap.size + 1, 0, none⟩) (Nat.le_succ _) _).setCell (p := ⟨w.heap.size + 1 + 1, 0, none⟩) (by show w.heap.size ≤ w.heap.size + 1 + 1; omega) _).drew⟩
end Go.Proofs.YtfbgnonnbcejkaaGreatDoor
