/- Lemmas on the way to the law FnWKTParts, without conditions beside those that each states: Making leaves: what the steps lean on | Making leaves with ends: what the steps lean on. -/
import Derived.Test.YtfbgnonnbcejkaaGreatDoorY13
import Derived.Test.YtfbgnonnbcejkaaGreatDoorY14
import Derived.Deep.DeepCutAuto
namespace Go.Proofs.YtfbgnonnbcejkaaGreatDoor
open Go.RowKit

theorem leafAt_new {wx : World} {base : Nat} {k l : Int} {f : List Nat} {e : List Int} {ee : List (List Int)} {cs : Array Value} {T : Nat} {vf : Value} (h0 : cs[0]? = some (.int .i64 l)) (h1 : cs[1]? = some (.int .i64 (strideF l))) (h2 : cs[2]? = some vf)
    (hf : FloatsIn (fun b => base ≤ b ∧ b < wx.heap.size) wx vf f) (h4 : k = 3 ∨ k = 4 ∨ k = 5 → ∃ ve, cs[4]? = some ve ∧ IntsIn (fun b => base ≤ b ∧ b < wx.heap.size) wx ve e) (h5 : k = 6 → ∃ ve, cs[4]? = some ve ∧ IntssIn (fun b => base ≤ b ∧ b < wx.heap.size) wx ve ee) :
    LeafAt (fun b => base ≤ b ∧ b < (wx.alloc (.cells cs T)).heap.size) (wx.alloc (.cells cs T)) wx.heap.size k l f e ee := by
  have hk : Keeps (fun b => base ≤ b ∧ b < wx.heap.size) wx (wx.alloc (.cells cs T)) := fun b hb => ((Below.refl wx.heap.size wx).alloc (Nat.le_refl _) _).block b hb.2
  have hS : ∀ b, (base ≤ b ∧ b < wx.heap.size) → (base ≤ b ∧ b < (wx.alloc (.cells cs T)).heap.size) := fun b hb => ⟨hb.1, by rw [World.size_alloc]; omega⟩
  have hc : ∀ j, (wx.alloc (.cells cs T)).cell? ⟨wx.heap.size, j, none⟩ = cs[j]? := fun j => World.cell?_alloc_new ..
  refine ⟨by rw [hc]; exact h0, by rw [hc]; exact h1, ⟨vf, by rw [hc]; exact h2, (hf.keep hk).mono hS⟩, fun hh => ?_, fun hh => ?_⟩
  · obtain ⟨ve, h6, h7⟩ := h4 hh
    exact ⟨ve, by rw [hc]; exact h6, (h7.keep hk).mono hS⟩
  · obtain ⟨ve, h6, h7⟩ := h5 hh
    exact ⟨ve, by rw [hc]; exact h6, (h7.keep hk).mono hS⟩

theorem newCell {w : World} {cs : Array Value} {T j : Nat} {v : Value} (h : cs[j]? = some v) : (w.alloc (.cells cs T)).cell? ⟨w.heap.size, j, none⟩ = some v := (World.cell?_alloc_new ..).trans h
theorem newCellD {w : World} {cs : Array Value} {T j : Nat} {v : Value} (h : cs[j]? = some v) : ((w.alloc (.cells cs T)).drew).cell? ⟨w.heap.size, j, none⟩ = some v := newCell h
theorem newFrozen {w : World} {cs : Array Value} {T j : Nat} : (w.alloc (.cells cs T)).frozen? ⟨w.heap.size, j, none⟩ = false := World.frozen?_alloc_at _ _ _ _ rfl
theorem newFrozenD {w : World} {cs : Array Value} {T j : Nat} : ((w.alloc (.cells cs T)).drew).frozen? ⟨w.heap.size, j, none⟩ = false := newFrozen (w := w)
theorem floats2_c (K : Nat) (v : Value) (xs : List Nat) (w : World) (h : FloatsIn (· < K) w v xs) :
    Calls Tryz.prog 27 #[v] w fun e w' => ∃ a m, e = .returned (.slice a xs.length m) ∧ FloatsIn (fun b => w.heap.size ≤ b ∧ b < w'.heap.size) w' (.slice a xs.length m) xs ∧ Below w.heap.size w w' := by
  refine (floats_c K v xs w h).mono ?_
  rintro e w' ⟨a, n, m, rfl, hf, hb⟩
  obtain rfl : n = xs.length := by
    obtain ⟨_, _, hv, _⟩ := hf
    cases hv
    rfl
  exact ⟨a, m, rfl, hf, hb⟩

theorem objLeaf_new {wx : World} {base : Nat} {k l s : Int} {f : List Nat} {e : List Int} {ee : List (List Int)} {kids : List Geo} {cs : Array Value} {T : Nat} {vf : Value} (hk : k ≠ 7) (hb : base ≤ wx.heap.size) (h0 : cs[0]? = some (.int .i64 l)) (h1 : cs[1]? = some (.int .i64 (strideF l))) (h2 : cs[2]? = some vf)
    (hf : FloatsIn (fun b => base ≤ b ∧ b < wx.heap.size) wx vf f) (h4 : k = 3 ∨ k = 4 ∨ k = 5 → ∃ ve, cs[4]? = some ve ∧ IntsIn (fun b => base ≤ b ∧ b < wx.heap.size) wx ve e) (h5 : k = 6 → ∃ ve, cs[4]? = some ve ∧ IntssIn (fun b => base ≤ b ∧ b < wx.heap.size) wx ve ee) :
    ObjAt (fun b => base ≤ b ∧ b < ((wx.alloc (.cells cs T)).drew).heap.size) ((wx.alloc (.cells cs T)).drew) (.iface (tidF k) (.pointer (some ⟨wx.heap.size, 0, none⟩))) (.mk k l s f e ee kids) := by
  refine ⟨wx.heap.size, ⟨hb, ?_⟩, rfl, fun _ => ?_, fun hh => absurd hh hk⟩
  · show wx.heap.size < (wx.alloc (.cells cs T)).heap.size
    rw [World.size_alloc]
    exact Nat.lt_succ_self _
  · exact (leafAt_new (T := T) h0 h1 h2 hf h4 h5).keep (w' := (wx.alloc (.cells cs T)).drew) ⟨hb, by show wx.heap.size < (wx.alloc (.cells cs T)).heap.size; rw [World.size_alloc]; exact Nat.lt_succ_self _⟩ (fun _ _ => rfl)
theorem below_step {N : Nat} {w w1 wc : World} (h1 : Below N w w1) (h2 : Below (N + 1) w1 wc) (cs : Array Value) (T : Nat) (hN : N ≤ wc.heap.size) : Below N w ((wc.alloc (.cells cs T)).drew) :=
  ((h1.trans (h2.mono (Nat.le_succ _))).alloc hN _).drew
end Go.Proofs.YtfbgnonnbcejkaaGreatDoor
namespace Go.Proofs.YtfbgnonnbcejkaaGreatDoor
open Go.RowKit

theorem ints2_c (K : Nat) (v : Value) (xs : List Int) (w : World) (h : IntsIn (· < K) w v xs) :
    Calls Tryz.prog 35 #[v] w fun e w' => ∃ a m, e = .returned (.slice a xs.length m) ∧ (a = none → xs = []) ∧ IntsIn (fun b => w.heap.size ≤ b ∧ b < w'.heap.size) w' (.slice a xs.length m) xs ∧ Below w.heap.size w w' := by
  refine (ints_c K v xs w h).mono ?_
  rintro e w' ⟨a, n, m, rfl, hn, hf, hb⟩
  obtain rfl : n = xs.length := by
    obtain ⟨_, _, hv, _⟩ := hf
    cases hv
    rfl
  exact ⟨a, m, rfl, hn, hf, hb⟩
theorem intss2_c (K : Nat) (v : Value) (xs : List (List Int)) (w : World) (h : IntssIn (· < K) w v xs) (hK : K ≤ w.heap.size) :
    Calls Tryz.prog 43 #[v] w fun e w' => ∃ a m, e = .returned (.slice a xs.length m) ∧ IntssIn (fun b => w.heap.size ≤ b ∧ b < w'.heap.size) w' (.slice a xs.length m) xs ∧ Below w.heap.size w w' := by
  refine (intss_c K v xs w h hK).mono ?_
  rintro e w' ⟨a, n, m, rfl, hf, hb⟩
  obtain rfl : n = xs.length := by
    obtain ⟨_, _, hv, _⟩ := hf
    cases hv
    rfl
  exact ⟨a, m, rfl, hf, hb⟩
theorem objLeaf_new' {wx : World} {base : Nat} {k l s : Int} {f : List Nat} {e : List Int} {ee : List (List Int)} {kids : List Geo} {cs : Array Value} {T : Nat} {vf : Value} (hk : k ≠ 7) (hb : base ≤ wx.heap.size) (h0 : cs[0]? = some (.int .i64 l)) (h1 : cs[1]? = some (.int .i64 (strideF l))) (h2 : cs[2]? = some vf)
    (hf : FloatsIn (fun b => base ≤ b ∧ b < wx.heap.size) wx vf f) (h4 : k = 3 ∨ k = 4 ∨ k = 5 → ∃ ve, cs[4]? = some ve ∧ IntsIn (fun b => base ≤ b ∧ b < wx.heap.size) wx ve e) (h5 : k = 6 → ∃ ve, cs[4]? = some ve ∧ IntssIn (fun b => base ≤ b ∧ b < wx.heap.size) wx ve ee) :
    ObjAt (fun b => base ≤ b ∧ b < (wx.alloc (.cells cs T)).heap.size) (wx.alloc (.cells cs T)) (.iface (tidF k) (.pointer (some ⟨wx.heap.size, 0, none⟩))) (.mk k l s f e ee kids) :=
  ⟨wx.heap.size, ⟨hb, by rw [World.size_alloc]; exact Nat.lt_succ_self _⟩, rfl, fun _ => leafAt_new (T := T) h0 h1 h2 hf h4 h5, fun hh => absurd hh hk⟩
theorem floats_up {base : Nat} {w w' : World} {v : Value} {xs : List Nat} (h : FloatsIn (fun b => base ≤ b ∧ b < w.heap.size) w v xs) (hb : Below w.heap.size w w') : FloatsIn (fun b => base ≤ b ∧ b < w'.heap.size) w' v xs :=
  (h.keep (fun b hb' => hb.block b hb'.2)).mono (fun _ hb' => ⟨hb'.1, Nat.lt_of_lt_of_le hb'.2 hb.size⟩)
theorem ints_up {base : Nat} {w w' : World} {v : Value} {xs : List Int} (h : IntsIn (fun b => base ≤ b ∧ b < w.heap.size) w v xs) (hb : Below w.heap.size w w') : IntsIn (fun b => base ≤ b ∧ b < w'.heap.size) w' v xs :=
  (h.keep (fun b hb' => hb.block b hb'.2)).mono (fun _ hb' => ⟨hb'.1, Nat.lt_of_lt_of_le hb'.2 hb.size⟩)
theorem below_step' {N : Nat} {w w1 wc w2 : World} (h1 : Below N w w1) (h2 : Below (N + 1) w1 wc) (h3 : Below wc.heap.size wc w2) (hN : N ≤ wc.heap.size) (cs : Array Value) (T : Nat) : Below N w (w2.alloc (.cells cs T)) :=
  ((h1.trans (h2.mono (Nat.le_succ _))).trans (h3.mono hN)).alloc (Nat.le_trans hN h3.size) _
end Go.Proofs.YtfbgnonnbcejkaaGreatDoor
