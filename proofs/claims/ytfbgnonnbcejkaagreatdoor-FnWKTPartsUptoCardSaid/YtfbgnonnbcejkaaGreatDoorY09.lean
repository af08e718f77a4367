/- Lemmas on the way to the law FnWKTParts, without conditions beside those that each states: The objects that the program makes of a geometry: what they hold | The objects' reading methods | The makers of objects | What the type of an object is asked. -/
import Derived.Test.YtfbgnonnbcejkaaGreatDoorY06
import Derived.Deep.DeepCutAuto
namespace Go.Proofs.YtfbgnonnbcejkaaGreatDoor
open Go.RowKit

/-- The blocks of S stand as they stood. -/
def Keeps (S : Nat → Prop) (w w' : World) : Prop := ∀ b, S b → w'.heap[b]? = w.heap[b]?
theorem Keeps.cell {S : Nat → Prop} {w w' : World} (h : Keeps S w w') {b o : Nat} {v : Value} (hb : S b) (hc : w.cell? ⟨b, o, none⟩ = some v) : w'.cell? ⟨b, o, none⟩ = some v :=
  (World.cell?_of_block (a := ⟨b, _, none⟩) (h b hb)).trans hc
theorem keeps_of_below {K : Nat} {w w' : World} (h : Below K w w') : Keeps (· < K) w w' := fun b hb => h.block b hb
/-- A slice whose elements start where 'at' says, all in blocks of S. -/
def SlIn (S : Nat → Prop) (v : Value) (n : Nat) (at' : Nat → Nat → Nat → Prop) : Prop :=
  ∃ ao c, v = .slice ao n c ∧ (n ≤ c ∧ n ≤ 1048576) ∧ (0 < n → ∃ b o, ao = some ⟨b, o, none⟩ ∧ S b ∧ ∀ j, j < n → at' j b (o + j))
theorem SlIn.imp {S T : Nat → Prop} {v : Value} {n : Nat} {p q : Nat → Nat → Nat → Prop} (h : SlIn S v n p) (hS : ∀ b, S b → T b) (hp : ∀ j b o, S b → p j b o → q j b o) : SlIn T v n q := by
  obtain ⟨ao, c, h1, h2, h3⟩ := h
  refine ⟨ao, c, h1, h2, fun hn => ?_⟩
  obtain ⟨b, o, h4, h5, h6⟩ := h3 hn
  exact ⟨b, o, h4, hS b h5, fun j hj => hp _ _ _ h5 (h6 j hj)⟩
def IntsIn (S : Nat → Prop) (w : World) (v : Value) (xs : List Int) : Prop :=
  SlIn S v xs.length (fun j b o => w.cell? ⟨b, o, none⟩ = some (.int .i64 (xs.getD j 0)) ∧ I64 (xs.getD j 0))
def FloatsIn (S : Nat → Prop) (w : World) (v : Value) (xs : List Nat) : Prop :=
  SlIn S v xs.length (fun j b o => w.cell? ⟨b, o, none⟩ = some (.float .f64 (xs.getD j 0)) ∧ xs.getD j 0 < 18446744073709551616)
def IntssIn (S : Nat → Prop) (w : World) (v : Value) (xss : List (List Int)) : Prop :=
  SlIn S v xss.length (fun j b o => ∃ u, w.cell? ⟨b, o, none⟩ = some u ∧ IntsIn S w u (xss.getD j []))
theorem IntsIn.keep {S : Nat → Prop} {w w' : World} {v : Value} {xs : List Int} (h : IntsIn S w v xs) (hk : Keeps S w w') : IntsIn S w' v xs :=
  SlIn.imp h (fun _ hb => hb) (fun _ _ _ hb hp => ⟨hk.cell hb hp.1, hp.2⟩)
theorem FloatsIn.keep {S : Nat → Prop} {w w' : World} {v : Value} {xs : List Nat} (h : FloatsIn S w v xs) (hk : Keeps S w w') : FloatsIn S w' v xs :=
  SlIn.imp h (fun _ hb => hb) (fun _ _ _ hb hp => ⟨hk.cell hb hp.1, hp.2⟩)
theorem IntssIn.keep {S : Nat → Prop} {w w' : World} {v : Value} {xs : List (List Int)} (h : IntssIn S w v xs) (hk : Keeps S w w') : IntssIn S w' v xs :=
  SlIn.imp h (fun _ hb => hb) (fun _ _ _ hb ⟨u, h1, h2⟩ => ⟨u, hk.cell hb h1, h2.keep hk⟩)
theorem IntsIn.mono {S T : Nat → Prop} {w : World} {v : Value} {xs : List Int} (h : IntsIn S w v xs) (hS : ∀ b, S b → T b) : IntsIn T w v xs := SlIn.imp h hS (fun _ _ _ _ hp => hp)
theorem FloatsIn.mono {S T : Nat → Prop} {w : World} {v : Value} {xs : List Nat} (h : FloatsIn S w v xs) (hS : ∀ b, S b → T b) : FloatsIn T w v xs := SlIn.imp h hS (fun _ _ _ _ hp => hp)
theorem IntssIn.mono {S T : Nat → Prop} {w : World} {v : Value} {xs : List (List Int)} (h : IntssIn S w v xs) (hS : ∀ b, S b → T b) : IntssIn T w v xs :=
  SlIn.imp h hS (fun _ _ _ _ ⟨u, h1, h2⟩ => ⟨u, h1, h2.mono hS⟩)
theorem IntsAt.toIn {K : Nat} {w : World} {v : Value} {xs : List Int} (h : IntsAt K w v xs) : IntsIn (· < K) w v xs := by
  obtain ⟨ao, c, h1, h2, h3⟩ := h
  refine ⟨ao, c, h1, h2, fun hn => ?_⟩
  obtain ⟨b, o, h4, h5, h6⟩ := h3 hn
  exact ⟨b, o, h4, h5, fun j hj => by simpa using h6 j hj⟩
theorem FloatsAt.toIn {K : Nat} {w : World} {v : Value} {xs : List Nat} (h : FloatsAt K w v xs) : FloatsIn (· < K) w v xs := by
  obtain ⟨ao, c, h1, h2, h3⟩ := h
  refine ⟨ao, c, h1, h2, fun hn => ?_⟩
  obtain ⟨b, o, h4, h5, h6⟩ := h3 hn
  exact ⟨b, o, h4, h5, fun j hj => by simpa using h6 j hj⟩
theorem IntssAt.toIn {K : Nat} {w : World} {v : Value} {xs : List (List Int)} (h : IntssAt K w v xs) : IntssIn (· < K) w v xs := by
  obtain ⟨ao, c, h1, h2, h3⟩ := h
  refine ⟨ao, c, h1, h2, fun hn => ?_⟩
  obtain ⟨b, o, h4, h5, h6⟩ := h3 hn
  refine ⟨b, o, h4, h5, fun j hj => ?_⟩
  obtain ⟨u, h7, h8⟩ := h6 j hj
  exact ⟨u, by simpa using h7, h8.toIn⟩

/-- The dynamic type of a kind's object. -/
def tidF (k : Int) : Nat := if k = 1 then 59 else if k = 2 then 62 else if k = 8 then 65 else if k = 3 then 68 else if k = 4 then 72 else if k = 5 then 78 else if k = 6 then 81 else 85
/-- What a leaf's block holds. -/
def LeafAt (S : Nat → Prop) (w : World) (b : Nat) (k l : Int) (f : List Nat) (e : List Int) (ee : List (List Int)) : Prop :=
  w.cell? ⟨b, 0, none⟩ = some (.int .i64 l) ∧ w.cell? ⟨b, 1, none⟩ = some (.int .i64 (strideF l)) ∧ (∃ vf, w.cell? ⟨b, 2, none⟩ = some vf ∧ FloatsIn S w vf f) ∧
  (k = 3 ∨ k = 4 ∨ k = 5 → ∃ ve, w.cell? ⟨b, 4, none⟩ = some ve ∧ IntsIn S w ve e) ∧ (k = 6 → ∃ ve, w.cell? ⟨b, 4, none⟩ = some ve ∧ IntssIn S w ve ee)
theorem LeafAt.keep {S : Nat → Prop} {w w' : World} {b : Nat} {k l : Int} {f e ee} (h : LeafAt S w b k l f e ee) (hb : S b) (hk : Keeps S w w') : LeafAt S w' b k l f e ee := by
  obtain ⟨h0, h1, ⟨vf, h2, h3⟩, h4, h5⟩ := h
  refine ⟨hk.cell hb h0, hk.cell hb h1, ⟨vf, hk.cell hb h2, h3.keep hk⟩, fun hh => ?_, fun hh => ?_⟩
  · obtain ⟨ve, h6, h7⟩ := h4 hh
    exact ⟨ve, hk.cell hb h6, h7.keep hk⟩
  · obtain ⟨ve, h6, h7⟩ := h5 hh
    exact ⟨ve, hk.cell hb h6, h7.keep hk⟩
theorem LeafAt.mono {S T : Nat → Prop} {w : World} {b : Nat} {k l : Int} {f e ee} (h : LeafAt S w b k l f e ee) (hS : ∀ b, S b → T b) : LeafAt T w b k l f e ee := by
  obtain ⟨h0, h1, ⟨vf, h2, h3⟩, h4, h5⟩ := h
  exact ⟨h0, h1, ⟨vf, h2, h3.mono hS⟩, fun hh => (h4 hh).elim fun ve h6 => ⟨ve, h6.1, h6.2.mono hS⟩, fun hh => (h5 hh).elim fun ve h6 => ⟨ve, h6.1, h6.2.mono hS⟩⟩
mutual
/-- The interface value of a geometry's object. -/
def ObjAt (S : Nat → Prop) (w : World) (v : Value) : Geo → Prop
  | .mk k l _ f e ee kids => ∃ b, S b ∧ v = .iface (tidF k) (.pointer (some ⟨b, 0, none⟩)) ∧
      (k ≠ 7 → LeafAt S w b k l f e ee) ∧
      (k = 7 → w.cell? ⟨b, 0, none⟩ = some (.int .i64 l) ∧ ∃ ao c g, w.cell? ⟨b, 1, none⟩ = some (.slice ao kids.length c) ∧ kids.length ≤ c ∧ kids.length ≤ 1048576 ∧ (0 < kids.length → ao = some ⟨g, 0, none⟩ ∧ S g) ∧ ObjsAt S w g 0 kids)
/-- Interface values one behind another. -/
def ObjsAt (S : Nat → Prop) (w : World) (g o : Nat) : List Geo → Prop
  | [] => True
  | x :: r => (∃ v, w.cell? ⟨g, o, none⟩ = some v ∧ ObjAt S w v x) ∧ ObjsAt S w g (o + 1) r
end
mutual
theorem ObjAt.keep {S : Nat → Prop} {w w' : World} (hk : Keeps S w w') : ∀ (x : Geo) (v : Value), ObjAt S w v x → ObjAt S w' v x
  | .mk k l s f e ee kids, v, h => by
    obtain ⟨b, hb, h1, h2, h3⟩ := h
    refine ⟨b, hb, h1, fun hh => (h2 hh).keep hb hk, fun hh => ?_⟩
    obtain ⟨h4, ao, c, g, h5, h6, h7, h8, h9⟩ := h3 hh
    refine ⟨hk.cell hb h4, ao, c, g, hk.cell hb h5, h6, h7, h8, ?_⟩
    rcases Nat.eq_zero_or_pos kids.length with hz | hz
    · have : kids = [] := List.length_eq_zero_iff.1 hz
      subst this
      simp only [ObjsAt]
    · exact ObjsAt.keep hk kids g 0 (h8 hz).2 h9
theorem ObjsAt.keep {S : Nat → Prop} {w w' : World} (hk : Keeps S w w') : ∀ (l : List Geo) (g o : Nat), S g → ObjsAt S w g o l → ObjsAt S w' g o l
  | [], _, _, _, _ => by simp only [ObjsAt]
  | x :: r, g, o, hg, h => by
    obtain ⟨⟨v, h1, h2⟩, h3⟩ := h
    exact ⟨⟨v, hk.cell hg h1, ObjAt.keep hk x v h2⟩, ObjsAt.keep hk r g (o + 1) hg h3⟩
end
mutual
theorem ObjAt.mono {S T : Nat → Prop} {w : World} (hS : ∀ b, S b → T b) : ∀ (x : Geo) (v : Value), ObjAt S w v x → ObjAt T w v x
  | .mk k l s f e ee kids, v, h => by
    obtain ⟨b, hb, h1, h2, h3⟩ := h
    refine ⟨b, hS b hb, h1, fun hh => (h2 hh).mono hS, fun hh => ?_⟩
    obtain ⟨h4, ao, c, g, h5, h6, h7, h8, h9⟩ := h3 hh
    exact ⟨h4, ao, c, g, h5, h6, h7, fun hz => ⟨(h8 hz).1, hS g (h8 hz).2⟩, ObjsAt.mono hS kids g 0 h9⟩
theorem ObjsAt.mono {S T : Nat → Prop} {w : World} (hS : ∀ b, S b → T b) : ∀ (l : List Geo) (g o : Nat), ObjsAt S w g o l → ObjsAt T w g o l
  | [], _, _, _ => by simp only [ObjsAt]
  | x :: r, g, o, h => by
    obtain ⟨⟨v, h1, h2⟩, h3⟩ := h
    exact ⟨⟨v, h1, ObjAt.mono hS x v h2⟩, ObjsAt.mono hS r g (o + 1) h3⟩
end
theorem ObjsAt.get {S : Nat → Prop} {w : World} : ∀ (l : List Geo) (g o j : Nat) (x : Geo), ObjsAt S w g o l → l[j]? = some x → ∃ v, w.cell? ⟨g, o + j, none⟩ = some v ∧ ObjAt S w v x
  | [], _, _, _, _, _, h => by simp at h
  | x :: r, g, o, 0, x', h, hj => by
    obtain ⟨h1, _⟩ := h
    simp at hj
    subst hj
    simpa using h1
  | x :: r, g, o, j + 1, x', h, hj => by
    obtain ⟨_, h3⟩ := h
    have := ObjsAt.get r g (o + 1) j x' h3 (by simpa using hj)
    rw [show o + (j + 1) = o + 1 + j by omega]
    exact this
theorem ObjsAt.of {S : Nat → Prop} {w : World} : ∀ (l : List Geo) (g o : Nat), (∀ j x, l[j]? = some x → ∃ v, w.cell? ⟨g, o + j, none⟩ = some v ∧ ObjAt S w v x) → ObjsAt S w g o l
  | [], _, _, _ => by simp only [ObjsAt]
  | x :: r, g, o, h => by
    refine ⟨h 0 x rfl, ObjsAt.of r g (o + 1) fun j y hj => ?_⟩
    have := h (j + 1) y (by simpa using hj)
    rw [show o + 1 + j = o + (j + 1) by omega]
    exact this
theorem ObjAt.shape {S : Nat → Prop} {w : World} {v : Value} {x : Geo} (h : ObjAt S w v x) : ∃ b, S b ∧ v = .iface (tidF x.kind) (.pointer (some ⟨b, 0, none⟩)) := by
  cases x with
  | mk k l s f e ee kids =>
    obtain ⟨b, hb, h1, _⟩ := h
    exact ⟨b, hb, h1⟩

mutual
/-- No numbers at all. -/
def emptyF : Geo → Bool
  | .mk k _ _ f _ _ kids => if k = 7 then emptyAll kids else f.isEmpty
def emptyAll : List Geo → Bool
  | [] => true
  | g :: r => emptyF g && emptyAll r
end
theorem emptyAll_drop (kids : List Geo) (k : Nat) (g : Geo) (h : kids[k]? = some g) : emptyAll (kids.drop k) = (emptyF g && emptyAll (kids.drop (k + 1))) := by
  obtain ⟨hk, he⟩ := List.getElem?_eq_some_iff.1 h
  rw [List.drop_eq_getElem_cons hk, he]
  simp only [emptyAll]
theorem coverF_max (a b : Int) : a ≤ coverF a b ∧ b ≤ coverF a b := by
  unfold coverF
  split <;> first | omega | (split <;> omega)
theorem coverAll_max : ∀ (l : List Geo) (a : Int), a ≤ coverAll a l ∧ ∀ g ∈ l, layoutOfF g ≤ coverAll a l
  | [], a => by simp [coverAll]
  | g :: r, a => by
    have h1 := coverF_max a (layoutOfF g)
    have h2 := coverAll_max r (coverF a (layoutOfF g))
    unfold coverAll
    refine ⟨by omega, fun x hx => ?_⟩
    rcases List.mem_cons.1 hx with rfl | hx
    · omega
    · exact h2.2 x hx
mutual
/-- What has no layout has no numbers. -/
theorem empty_of_no_layout (m : Int) : ∀ g : Geo, gLayF m g = true → layoutOfF g = 0 → emptyF g = true
  | .mk k l s f e ee kids, h, h0 => by
    rw [gLayF] at h
    simp at h
    unfold layoutOfF at h0
    by_cases h7 : k = 7
    · subst h7
      rw [emptyF, if_pos rfl]
      have hl : l = 0 := by
        by_cases hl : l = 0
        · exact hl
        · rw [if_pos (Or.inr hl)] at h0
          exact h0
      subst hl
      rw [if_neg (by simp)] at h0
      exact emptyAll_of m kids 0 h.1 (by omega)
    · rw [if_pos (Or.inl h7)] at h0
      omega
theorem emptyAll_of (m : Int) : ∀ (l : List Geo) (a : Int), gLayAll m l = true → coverAll a l ≤ 0 → emptyAll l = true
  | [], _, _, _ => by simp [emptyAll]
  | g :: r, a, h, h0 => by
    rw [gLayAll] at h
    simp at h
    have h1 := (coverAll_max (g :: r) a).2 g List.mem_cons_self
    have h2 : 0 ≤ layoutOfF g := layoutOfF_nonneg m g h.1
    unfold coverAll at h0
    rw [emptyAll, empty_of_no_layout m g h.1 (by rw [coverAll] at h1; omega), emptyAll_of m r _ h.2 h0]
    rfl
theorem layoutOfF_nonneg (m : Int) : ∀ g : Geo, gLayF m g = true → 0 ≤ layoutOfF g
  | .mk k l s f e ee kids, h => by
    rw [gLayF] at h
    simp at h
    unfold layoutOfF
    split
    · omega
    · have := (coverAll_max kids l).1
      omega
end
end Go.Proofs.YtfbgnonnbcejkaaGreatDoor
namespace Go.Proofs.YtfbgnonnbcejkaaGreatDoor
open Go.RowKit

theorem layStride_c (l : Int) (h : 0 ≤ l) (w : World) : Calls Tryz.prog 52 #[.int .i64 l] w fun e w' => e = .returned (.int .i64 (strideF l)) ∧ w = w' := by
  have hs : Hid (strideF l = if l < 1 then 0 else if l = 1 then 2 else if l = 2 ∨ l = 3 then 3 else l) := rfl
  by_cases h0 : l = 0
  · have h : Hid (strideF l = 0) := Lib.hid (by rw [hs.out, if_pos (by omega)])
    subst h0
    go_enter Tryz.func52, Tryz.ntmps52
    go_wp2
    go_ret
    exact ⟨ret_int h.out.symm, rfl⟩
  · by_cases h2 : l = 1
    · have h : Hid (strideF l = 2) := Lib.hid (by rw [hs.out, if_neg (by omega), if_pos h2])
      subst h2
      go_enter Tryz.func52, Tryz.ntmps52
      go_wp2
      go_ret
      exact ⟨ret_int h.out.symm, rfl⟩
    · by_cases h3 : l = 2
      · have h : Hid (strideF l = 3) := Lib.hid (by rw [hs.out, if_neg (by omega), if_neg h2, if_pos (Or.inl h3)])
        subst h3
        go_enter Tryz.func52, Tryz.ntmps52
        go_wp2
        go_ret
        exact ⟨ret_int h.out.symm, rfl⟩
      · by_cases h4 : l = 3
        · have h : Hid (strideF l = 3) := Lib.hid (by rw [hs.out, if_neg (by omega), if_neg h2, if_pos (Or.inr h4)])
          subst h4
          go_enter Tryz.func52, Tryz.ntmps52
          go_wp2
          go_ret
          exact ⟨ret_int h.out.symm, rfl⟩
        · by_cases h5 : l = 4
          · have h : Hid (strideF l = 4) := Lib.hid (by rw [hs.out, if_neg (by omega), if_neg h2, if_neg (by omega), h5])
            subst h5
            go_enter Tryz.func52, Tryz.ntmps52
            go_wp2
            go_ret
            exact ⟨ret_int h.out.symm, rfl⟩
          · have h : Hid (strideF l = l) := Lib.hid (by rw [hs.out, if_neg (by omega), if_neg h2, if_neg (by omega)])
            have b0 : (l == 0) = false := by simpa using h0
            have b1 : (l == 1) = false := by simpa using h2
            have b2 : (l == 2) = false := by simpa using h3
            have b3 : (l == 3) = false := by simpa using h4
            have b4 : (l == 4) = false := by simpa using h5
            go_enter Tryz.func52, Tryz.ntmps52
            go_wp2
            go_ret
            exact ⟨ret_int h.out.symm, rfl⟩
theorem geom0Empty_c (b : Nat) (a : Option Addr) (n c : Nat) (w : World) (h : w.cell? ⟨b, 2, none⟩ = some (.slice a n c)) : Calls Tryz.prog 58 #[.pointer (some ⟨b, 0, none⟩)] w fun e w' => e = .returned (.bool (decide (n = 0))) ∧ w = w' := by
  by_cases h0 : n = 0
  · subst h0
    go_enter Tryz.func58, Tryz.ntmps58
    go_wp2
    go_ret
    exact ⟨rfl, rfl⟩
  · have hd : Hid (decide (n = 0) = false) := Lib.hid (decide_eq_false h0)
    have hz : ((n : Int) == 0) = false := by simpa using h0
    go_enter Tryz.func58, Tryz.ntmps58
    go_wp2
    go_ret
    exact ⟨ret_bool hd.out.symm, rfl⟩
theorem flatCoords_c (b : Nat) (v : Value) (w : World) (h : w.cell? ⟨b, 2, none⟩ = some v) : Calls Tryz.prog 61 #[.pointer (some ⟨b, 0, none⟩)] w fun e w' => e = .returned v ∧ w = w' := by
  go_enter Tryz.func61, Tryz.ntmps61
  go_wp2
  go_ret
  exact ⟨rfl, rfl⟩
theorem ends_c (b : Nat) (v : Value) (w : World) (h : w.cell? ⟨b, 4, none⟩ = some v) : Calls Tryz.prog 64 #[.pointer (some ⟨b, 0, none⟩)] w fun e w' => e = .returned v ∧ w = w' := by
  go_enter Tryz.func64, Tryz.ntmps64
  go_wp2
  go_ret
  exact ⟨rfl, rfl⟩
theorem endss_c (b : Nat) (v : Value) (w : World) (h : w.cell? ⟨b, 4, none⟩ = some v) : Calls Tryz.prog 70 #[.pointer (some ⟨b, 0, none⟩)] w fun e w' => e = .returned v ∧ w = w' := by
  go_enter Tryz.func70, Tryz.ntmps70
  go_wp2
  go_ret
  exact ⟨rfl, rfl⟩
theorem numPoints_c (b : Nat) (a : Option Addr) (n c : Nat) (w : World) (h : w.cell? ⟨b, 4, none⟩ = some (.slice a n c)) : Calls Tryz.prog 65 #[.pointer (some ⟨b, 0, none⟩)] w fun e w' => e = .returned (.int .i64 n) ∧ w = w' := by
  go_enter Tryz.func65, Tryz.ntmps65
  go_wp2
  go_ret
  exact ⟨rfl, rfl⟩
theorem numLines_c (b : Nat) (a : Option Addr) (n c : Nat) (w : World) (h : w.cell? ⟨b, 4, none⟩ = some (.slice a n c)) : Calls Tryz.prog 67 #[.pointer (some ⟨b, 0, none⟩)] w fun e w' => e = .returned (.int .i64 n) ∧ w = w' := by
  go_enter Tryz.func67, Tryz.ntmps67
  go_wp2
  go_ret
  exact ⟨rfl, rfl⟩
theorem numPolys_c (b : Nat) (a : Option Addr) (n c : Nat) (w : World) (h : w.cell? ⟨b, 4, none⟩ = some (.slice a n c)) : Calls Tryz.prog 68 #[.pointer (some ⟨b, 0, none⟩)] w fun e w' => e = .returned (.int .i64 n) ∧ w = w' := by
  go_enter Tryz.func68, Tryz.ntmps68
  go_wp2
  go_ret
  exact ⟨rfl, rfl⟩
theorem numGeoms_c (b : Nat) (a : Option Addr) (n c : Nat) (w : World) (h : w.cell? ⟨b, 1, none⟩ = some (.slice a n c)) : Calls Tryz.prog 71 #[.pointer (some ⟨b, 0, none⟩)] w fun e w' => e = .returned (.int .i64 n) ∧ w = w' := by
  go_enter Tryz.func71, Tryz.ntmps71
  go_wp2
  go_ret
  exact ⟨rfl, rfl⟩
theorem geoms_c (b : Nat) (v : Value) (w : World) (h : w.cell? ⟨b, 1, none⟩ = some v) : Calls Tryz.prog 73 #[.pointer (some ⟨b, 0, none⟩)] w fun e w' => e = .returned v ∧ w = w' := by
  go_enter Tryz.func73, Tryz.ntmps73
  go_wp2
  go_ret
  exact ⟨rfl, rfl⟩
theorem geom0Layout_c (b : Nat) (l : Int) (w : World) (h : w.cell? ⟨b, 0, none⟩ = some (.int .i64 l)) : Calls Tryz.prog 152 #[.pointer (some ⟨b, 0, none⟩)] w fun e w' => e = .returned (.int .i64 l) ∧ w = w' := by
  go_enter Tryz.func152, Tryz.ntmps152
  go_wp2
  go_ret
  exact ⟨rfl, rfl⟩

theorem wp_invoke0 {ops : Array Oper} {rest : List Oper} {o : Oper} {a : Act} {Q : Exit → Act → World → Prop} {w : World} (hgd : o.guard = none) (x : Operand) (name : String) (ats : Array TypeId)
    (ho : o.op = .call { callee := .invoke x name, args := #[], argTypes := ats }) (T : TypeId) (v : Value) (hx : a.eval x = .iface T v) (F : FuncId) (v' : Value)
    (hM : (callMethod (.iface T v) name #[]).run Tryz.prog w = .ok (.enter F #[v']) w) (u : Value)
    (hC : Calls Tryz.prog F #[v'] w fun e w' => e = .returned u ∧ w = w') (h : wpList Tryz.prog ops Q rest (a.put o.dst u) w) : wpList Tryz.prog ops Q (o :: rest) a w := by
  refine wpList_plain hgd fun K hK => ?_
  unfold Oper.wp
  have he : (execOp a.eval o).run Tryz.prog w = .ok (.enter F #[v']) w := by
    obtain ⟨dst, op, ty, pos, after, guard⟩ := o
    subst ho
    rw [← hM, ← hx]
    have e1 : (#[a.eval x] : Array Value) ++ (#[] : Array Operand).map a.eval = #[a.eval x] := by simp
    have e2 : (#[a.eval x] : Array Value).extract 1 1 = #[] := by simp
    show (invoke (.fn (.method name) #[]) (#[a.eval x] ++ (#[] : Array Operand).map a.eval)).run Tryz.prog w = _
    rw [e1]
    show (callMethod (a.eval x) name ((#[a.eval x] : Array Value).extract 1 1)).run Tryz.prog w = _
    rw [e2]
  rw [he]
  refine hC.mono ?_
  rintro e w' ⟨rfl, rfl⟩
  exact hK _ _ h
theorem goodF_leaf' (k l s : Int) (f : List Nat) (e : List Int) (ee : List (List Int)) (kids : List Geo) (h : k ≠ 7) : goodF (.mk k l s f e ee kids) = goodLeaf k l f.length e ee kids.length := by rw [goodF, if_neg h]
theorem goodAll_mem' (l : Int) : ∀ (kids : List Geo), goodAll l kids = true → ∀ p ∈ kids, goodF p = true
  | [], _, p, hp => by simp at hp
  | g :: r, h, p, hp => by
    rw [goodAll] at h
    simp at h
    rcases List.mem_cons.1 hp with rfl | hp
    · exact h.1.1
    · exact goodAll_mem' l r h.2 p hp
theorem cover_eq (a b : Int) : coverF a b = if a = 2 ∧ b = 3 ∨ a = 3 ∧ b = 2 then 4 else if a < b then b else a := by
  unfold coverF
  repeat' split
  all_goals omega

def layFn (k : Int) : Nat := if k = 7 then 162 else 152
def empFn (k : Int) : Nat := if k = 7 then 56 else 58
theorem kind_range : ∀ g : Geo, goodF g = true → 1 ≤ g.kind ∧ g.kind ≤ 8
  | .mk k l s f e ee kids, h => by
    by_cases h7 : k = 7
    · subst h7
      show (1 : Int) ≤ 7 ∧ (7 : Int) ≤ 8
      exact ⟨by decide, by decide⟩
    · rw [goodF_leaf' k l s f e ee kids h7] at h
      show 1 ≤ k ∧ k ≤ 8
      unfold goodLeaf at h
      split at h
      · simp at h
      · split at h
        · omega
        · split at h
          · omega
          · split at h
            · omega
            · split at h
              · omega
              · simp at h
theorem cL1 (a : Addr) (w : World) : (callMethod (.iface 59 (.pointer (some a))) "Layout" #[]).run Tryz.prog w = .ok (.enter 152 #[.pointer (some a)]) w := by kernel_rfl
theorem cL2 (a : Addr) (w : World) : (callMethod (.iface 62 (.pointer (some a))) "Layout" #[]).run Tryz.prog w = .ok (.enter 152 #[.pointer (some a)]) w := by kernel_rfl
theorem cL3 (a : Addr) (w : World) : (callMethod (.iface 68 (.pointer (some a))) "Layout" #[]).run Tryz.prog w = .ok (.enter 152 #[.pointer (some a)]) w := by kernel_rfl
theorem cL4 (a : Addr) (w : World) : (callMethod (.iface 72 (.pointer (some a))) "Layout" #[]).run Tryz.prog w = .ok (.enter 152 #[.pointer (some a)]) w := by kernel_rfl
theorem cL5 (a : Addr) (w : World) : (callMethod (.iface 78 (.pointer (some a))) "Layout" #[]).run Tryz.prog w = .ok (.enter 152 #[.pointer (some a)]) w := by kernel_rfl
theorem cL6 (a : Addr) (w : World) : (callMethod (.iface 81 (.pointer (some a))) "Layout" #[]).run Tryz.prog w = .ok (.enter 152 #[.pointer (some a)]) w := by kernel_rfl
theorem cL7 (a : Addr) (w : World) : (callMethod (.iface 85 (.pointer (some a))) "Layout" #[]).run Tryz.prog w = .ok (.enter 162 #[.pointer (some a)]) w := by kernel_rfl
theorem cL8 (a : Addr) (w : World) : (callMethod (.iface 65 (.pointer (some a))) "Layout" #[]).run Tryz.prog w = .ok (.enter 152 #[.pointer (some a)]) w := by kernel_rfl
theorem cE1 (a : Addr) (w : World) : (callMethod (.iface 59 (.pointer (some a))) "Empty" #[]).run Tryz.prog w = .ok (.enter 58 #[.pointer (some a)]) w := by kernel_rfl
theorem cE2 (a : Addr) (w : World) : (callMethod (.iface 62 (.pointer (some a))) "Empty" #[]).run Tryz.prog w = .ok (.enter 58 #[.pointer (some a)]) w := by kernel_rfl
theorem cE3 (a : Addr) (w : World) : (callMethod (.iface 68 (.pointer (some a))) "Empty" #[]).run Tryz.prog w = .ok (.enter 58 #[.pointer (some a)]) w := by kernel_rfl
theorem cE4 (a : Addr) (w : World) : (callMethod (.iface 72 (.pointer (some a))) "Empty" #[]).run Tryz.prog w = .ok (.enter 58 #[.pointer (some a)]) w := by kernel_rfl
theorem cE5 (a : Addr) (w : World) : (callMethod (.iface 78 (.pointer (some a))) "Empty" #[]).run Tryz.prog w = .ok (.enter 58 #[.pointer (some a)]) w := by kernel_rfl
theorem cE6 (a : Addr) (w : World) : (callMethod (.iface 81 (.pointer (some a))) "Empty" #[]).run Tryz.prog w = .ok (.enter 58 #[.pointer (some a)]) w := by kernel_rfl
theorem cE7 (a : Addr) (w : World) : (callMethod (.iface 85 (.pointer (some a))) "Empty" #[]).run Tryz.prog w = .ok (.enter 56 #[.pointer (some a)]) w := by kernel_rfl
theorem cE8 (a : Addr) (w : World) : (callMethod (.iface 65 (.pointer (some a))) "Empty" #[]).run Tryz.prog w = .ok (.enter 58 #[.pointer (some a)]) w := by kernel_rfl
theorem callLayout (k : Int) (h0 : 1 ≤ k) (h1 : k ≤ 8) (a : Addr) (w : World) : (callMethod (.iface (tidF k) (.pointer (some a))) "Layout" #[]).run Tryz.prog w = .ok (.enter (layFn k) #[.pointer (some a)]) w := by
  have : k = 1 ∨ k = 2 ∨ k = 3 ∨ k = 4 ∨ k = 5 ∨ k = 6 ∨ k = 7 ∨ k = 8 := by omega
  rcases this with rfl | rfl | rfl | rfl | rfl | rfl | rfl | rfl
  · exact cL1 a w
  · exact cL2 a w
  · exact cL3 a w
  · exact cL4 a w
  · exact cL5 a w
  · exact cL6 a w
  · exact cL7 a w
  · exact cL8 a w
theorem callEmpty (k : Int) (h0 : 1 ≤ k) (h1 : k ≤ 8) (a : Addr) (w : World) : (callMethod (.iface (tidF k) (.pointer (some a))) "Empty" #[]).run Tryz.prog w = .ok (.enter (empFn k) #[.pointer (some a)]) w := by
  have : k = 1 ∨ k = 2 ∨ k = 3 ∨ k = 4 ∨ k = 5 ∨ k = 6 ∨ k = 7 ∨ k = 8 := by omega
  rcases this with rfl | rfl | rfl | rfl | rfl | rfl | rfl | rfl
  · exact cE1 a w
  · exact cE2 a w
  · exact cE3 a w
  · exact cE4 a w
  · exact cE5 a w
  · exact cE6 a w
  · exact cE7 a w
  · exact cE8 a w

set_option maxHeartbeats 3200000 in
theorem objLayout_c : ∀ (n : Nat) (g : Geo), SizeOf.sizeOf g ≤ n → goodF g = true → ∀ (S : Nat → Prop) (w : World) (b : Nat), ObjAt S w (.iface (tidF g.kind) (.pointer (some ⟨b, 0, none⟩))) g →
    Calls Tryz.prog (layFn g.kind) #[.pointer (some ⟨b, 0, none⟩)] w fun e w' => e = .returned (.int .i64 (layoutOfF g)) ∧ w = w' := by
  intro n
  induction n with
  | zero => intro g hg; cases g; simp at hg
  | succ n ih =>
    intro g hgn hgood S w b hg
    cases g with
    | mk k l s f e ee kids =>
    obtain ⟨b', hb, hv, h2, h3⟩ := hg
    cases hv
    show Calls Tryz.prog (layFn k) _ _ _
    by_cases hk : k = 7
    · subst hk
      obtain ⟨h4, ao, c, gg, h5, h6, h6', h7, h8⟩ := h3 rfl
      have hF : layoutOfF (.mk 7 l s f e ee kids) = if (7 : Int) ≠ 7 ∨ l ≠ 0 then l else coverAll l kids := by rw [layoutOfF]
      rw [goodF, if_pos rfl] at hgood
      by_cases hl : l = 0
      · rw [if_neg (by omega)] at hF
        subst hl
        have HF := Lib.hid hF
        have Ho := Lib.hid h8
        have H7 := Lib.hid h7
        have Hih := Lib.hid ih
        have Hgood := Lib.hid hgood
        clear hF h8 h7 ih h2 h3 hgood
        show Calls Tryz.prog 162 _ _ _
        go_enter Tryz.func162, Tryz.ntmps162
        go_wp2
        go_loopw [3, 21] (fun a i wr => w = wr ∧ ∃ (j : Nat) (acc : Int), j ≤ kids.length ∧ i = .int .i64 j ∧ a = .int .i64 acc ∧ coverAll acc (kids.drop j) = coverAll 0 kids) (fun _ i _ => kids.length - (intOf i).toNat)
        case atStart => exact ⟨rfl, 0, 0, Nat.zero_le _, rfl, rfl, rfl⟩
        case round =>
          obtain ⟨rfl, j, acc, hj, rfl, rfl, hr⟩ := hrel
          by_cases hjl : j < kids.length
          · obtain ⟨rfl, hbK⟩ := H7.out (by omega)
            have hget : kids[j]? = some kids[j] := List.getElem?_eq_getElem hjl
            rw [coverAll_drop kids j acc _ hget] at hr
            obtain ⟨v, hcell, hu⟩ := ObjsAt.get kids gg 0 j _ Ho.out hget
            rw [Nat.zero_add] at hcell
            obtain ⟨bk, hbk, rfl⟩ := hu.shape
            have hgk : goodF kids[j] = true := (goodAll_mem' _ kids (by have := Hgood.out; simp at this; exact this.1) _ (List.getElem_mem hjl))
            have hkr := kind_range _ hgk
            have hsz : SizeOf.sizeOf kids[j] ≤ n := by
              have h1 := List.sizeOf_lt_of_mem (List.getElem_mem hjl)
              simp at hgn
              omega
            have HC := Lib.hid (Hih.out kids[j] hsz hgk S w bk hu)
            have HM := Lib.hid (callLayout kids[j].kind hkr.1 hkr.2 ⟨bk, 0, none⟩)
            have Hr := Lib.hid hr
            clear hr hget hu hgk hkr hsz
            generalize layoutOfF kids[j] = lj at *
            generalize tidF kids[j].kind = tj at *
            generalize layFn kids[j].kind = fj at *
            have hcvd : Hid (coverF acc lj = if acc = 2 ∧ lj = 3 ∨ acc = 3 ∧ lj = 2 then 4 else if acc < lj then lj else acc) := Lib.hid (cover_eq acc lj)
            by_cases e2 : lj = 2
            · by_cases a3 : acc = 3
              · have hcv : Hid (coverF acc lj = 4) := Lib.hid (by rw [hcvd.out, if_pos (Or.inr ⟨a3, e2⟩)])
                have b2 : (lj == 2) = true := by simpa using e2
                have b3 : (acc == 3) = true := by simpa using a3
                clear e2 a3
                go_wp2_with (refine wp_invoke0 rfl _ _ _ rfl _ _ rfl _ _ (HM.out _) _ HC.out ?_)
                go_roundw
                case rel => exact ⟨trivial, j + 1, 4, by omega, by go_num, rfl, by rw [← hcv.out]; exact Hr.out⟩
                case measure => simp [intOf]; omega
              · have b2 : (lj == 2) = true := by simpa using e2
                have b3 : (acc == 3) = false := by simpa using a3
                by_cases hgt : acc < lj
                · have hcv : Hid (coverF acc lj = lj) := Lib.hid (by rw [hcvd.out, if_neg (by omega), if_pos hgt])
                  clear e2 a3
                  go_wp2_with (refine wp_invoke0 rfl _ _ _ rfl _ _ rfl _ _ (HM.out _) _ HC.out ?_)
                  go_roundw
                  case rel => exact ⟨trivial, j + 1, lj, by omega, by go_num, rfl, by rw [← hcv.out]; exact Hr.out⟩
                  case measure => simp [intOf]; omega
                · have hcv : Hid (coverF acc lj = acc) := Lib.hid (by rw [hcvd.out, if_neg (by omega), if_neg hgt])
                  clear e2 a3
                  go_wp2_with (refine wp_invoke0 rfl _ _ _ rfl _ _ rfl _ _ (HM.out _) _ HC.out ?_)
                  go_roundw
                  case rel => exact ⟨trivial, j + 1, acc, by omega, by go_num, rfl, by rw [← hcv.out]; exact Hr.out⟩
                  case measure => simp [intOf]; omega
            · by_cases e3 : lj = 3
              · by_cases a2 : acc = 2
                · have hcv : Hid (coverF acc lj = 4) := Lib.hid (by rw [hcvd.out, if_pos (Or.inl ⟨a2, e3⟩)])
                  have b2 : (lj == 2) = false := by simpa using e2
                  have b3 : (lj == 3) = true := by simpa using e3
                  have b4 : (acc == 2) = true := by simpa using a2
                  clear e2 e3 a2
                  go_wp2_with (refine wp_invoke0 rfl _ _ _ rfl _ _ rfl _ _ (HM.out _) _ HC.out ?_)
                  go_roundw
                  case rel => exact ⟨trivial, j + 1, 4, by omega, by go_num, rfl, by rw [← hcv.out]; exact Hr.out⟩
                  case measure => simp [intOf]; omega
                · have b2 : (lj == 2) = false := by simpa using e2
                  have b3 : (lj == 3) = true := by simpa using e3
                  have b4 : (acc == 2) = false := by simpa using a2
                  by_cases hgt : acc < lj
                  · have hcv : Hid (coverF acc lj = lj) := Lib.hid (by rw [hcvd.out, if_neg (by omega), if_pos hgt])
                    clear e2 e3 a2
                    go_wp2_with (refine wp_invoke0 rfl _ _ _ rfl _ _ rfl _ _ (HM.out _) _ HC.out ?_)
                    go_roundw
                    case rel => exact ⟨trivial, j + 1, lj, by omega, by go_num, rfl, by rw [← hcv.out]; exact Hr.out⟩
                    case measure => simp [intOf]; omega
                  · have hcv : Hid (coverF acc lj = acc) := Lib.hid (by rw [hcvd.out, if_neg (by omega), if_neg hgt])
                    clear e2 e3 a2
                    go_wp2_with (refine wp_invoke0 rfl _ _ _ rfl _ _ rfl _ _ (HM.out _) _ HC.out ?_)
                    go_roundw
                    case rel => exact ⟨trivial, j + 1, acc, by omega, by go_num, rfl, by rw [← hcv.out]; exact Hr.out⟩
                    case measure => simp [intOf]; omega
              · have b2 : (lj == 2) = false := by simpa using e2
                have b3 : (lj == 3) = false := by simpa using e3
                by_cases hgt : acc < lj
                · have hcv : Hid (coverF acc lj = lj) := Lib.hid (by rw [hcvd.out, if_neg (by omega), if_pos hgt])
                  clear e2 e3
                  go_wp2_with (refine wp_invoke0 rfl _ _ _ rfl _ _ rfl _ _ (HM.out _) _ HC.out ?_)
                  go_roundw
                  case rel => exact ⟨trivial, j + 1, lj, by omega, by go_num, rfl, by rw [← hcv.out]; exact Hr.out⟩
                  case measure => simp [intOf]; omega
                · have hcv : Hid (coverF acc lj = acc) := Lib.hid (by rw [hcvd.out, if_neg (by omega), if_neg hgt])
                  clear e2 e3
                  go_wp2_with (refine wp_invoke0 rfl _ _ _ rfl _ _ rfl _ _ (HM.out _) _ HC.out ?_)
                  go_roundw
                  case rel => exact ⟨trivial, j + 1, acc, by omega, by go_num, rfl, by rw [← hcv.out]; exact Hr.out⟩
                  case measure => simp [intOf]; omega
          · have hje : j = kids.length := by omega
            rw [hje, List.drop_length] at hr
            have Hr : Hid (acc = coverAll 0 kids) := Lib.hid (by rw [← hr]; unfold coverAll; rfl)
            clear hr hje
            go_wp2
            go_ret
            exact ⟨ret_int (by rw [HF.out, ← Hr.out]), rfl⟩
      · rw [if_pos (Or.inr hl)] at hF
        have HF := Lib.hid hF
        have hl' : (l != 0) = true := by simpa using hl
        clear hF h8 h7 ih h2 h3 hgood hl
        show Calls Tryz.prog 162 _ _ _
        go_enter Tryz.func162, Tryz.ntmps162
        go_wp2
        go_ret
        exact ⟨ret_int HF.out.symm, rfl⟩
    · rw [show layFn k = 152 from if_neg hk]
      rw [show layoutOfF (.mk k l s f e ee kids) = l by rw [layoutOfF, if_pos (Or.inl hk)]]
      exact geom0Layout_c b l w (h2 hk).1

set_option maxHeartbeats 3200000 in
theorem objEmpty_c : ∀ (n : Nat) (g : Geo), SizeOf.sizeOf g ≤ n → goodF g = true → ∀ (S : Nat → Prop) (w : World) (b : Nat), ObjAt S w (.iface (tidF g.kind) (.pointer (some ⟨b, 0, none⟩))) g →
    Calls Tryz.prog (empFn g.kind) #[.pointer (some ⟨b, 0, none⟩)] w fun e w' => e = .returned (.bool (emptyF g)) ∧ w = w' := by
  intro n
  induction n with
  | zero => intro g hg; cases g; simp at hg
  | succ n ih =>
    intro g hgn hgood S w b hg
    cases g with
    | mk k l s f e ee kids =>
    obtain ⟨b', hb, hv, h2, h3⟩ := hg
    cases hv
    show Calls Tryz.prog (empFn k) _ _ _
    by_cases hk : k = 7
    · subst hk
      obtain ⟨h4, ao, c, gg, h5, h6, h6', h7, h8⟩ := h3 rfl
      have hF : emptyF (.mk 7 l s f e ee kids) = emptyAll kids := by rw [emptyF, if_pos rfl]
      rw [goodF, if_pos rfl] at hgood
      have HF := Lib.hid hF
      have Ho := Lib.hid h8
      have H7 := Lib.hid h7
      have Hih := Lib.hid ih
      have Hgood := Lib.hid hgood
      clear hF h8 h7 ih h2 h3 hgood
      show Calls Tryz.prog 56 _ _ _
      go_enter Tryz.func56, Tryz.ntmps56
      go_wp2
      go_loopw [10] (fun i wr => w = wr ∧ ∃ (j : Nat), j ≤ kids.length ∧ i = .int .i64 j ∧ emptyAll (kids.drop j) = emptyAll kids) (fun i _ => kids.length - (intOf i).toNat)
      case atStart => exact ⟨rfl, 0, Nat.zero_le _, rfl, rfl⟩
      case round =>
        obtain ⟨rfl, j, hj, rfl, hr⟩ := hrel
        by_cases hjl : j < kids.length
        · obtain ⟨rfl, hbK⟩ := H7.out (by omega)
          have hget : kids[j]? = some kids[j] := List.getElem?_eq_getElem hjl
          rw [emptyAll_drop kids j _ hget] at hr
          obtain ⟨v, hcell, hu⟩ := ObjsAt.get kids gg 0 j _ Ho.out hget
          rw [Nat.zero_add] at hcell
          obtain ⟨bk, hbk, rfl⟩ := hu.shape
          have hgk : goodF kids[j] = true := (goodAll_mem' _ kids (by have := Hgood.out; simp at this; exact this.1) _ (List.getElem_mem hjl))
          have hkr := kind_range _ hgk
          have hsz : SizeOf.sizeOf kids[j] ≤ n := by
            have h1 := List.sizeOf_lt_of_mem (List.getElem_mem hjl)
            simp at hgn
            omega
          have HC := Lib.hid (Hih.out kids[j] hsz hgk S w bk hu)
          have HM := Lib.hid (callEmpty kids[j].kind hkr.1 hkr.2 ⟨bk, 0, none⟩)
          clear hget hu hgk hkr hsz
          generalize emptyF kids[j] = lj at *
          generalize tidF kids[j].kind = tj at *
          generalize empFn kids[j].kind = fj at *
          cases lj
          · have Hr : Hid (false = emptyAll kids) := Lib.hid (by rw [← hr]; rfl)
            clear hr
            go_wp2_with (refine wp_invoke0 rfl _ _ _ rfl _ _ rfl _ _ (HM.out _) _ HC.out ?_)
            go_ret
            exact ⟨ret_bool (by rw [HF.out, ← Hr.out]), rfl⟩
          · have Hr : Hid (emptyAll (kids.drop (j + 1)) = emptyAll kids) := Lib.hid (by rw [← hr]; simp)
            clear hr
            go_wp2_with (refine wp_invoke0 rfl _ _ _ rfl _ _ rfl _ _ (HM.out _) _ HC.out ?_)
            go_roundw
            case rel => exact ⟨trivial, j + 1, by omega, by go_num, Hr.out⟩
            case measure => simp [intOf]; omega
        · have hje : j = kids.length := by omega
          rw [hje, List.drop_length] at hr
          have Hr : Hid (true = emptyAll kids) := Lib.hid (by rw [← hr]; unfold emptyAll; rfl)
          clear hr hje
          go_wp2
          go_ret
          exact ⟨ret_bool (by rw [HF.out, ← Hr.out]), rfl⟩
    · rw [show empFn k = 58 from if_neg hk]
      obtain ⟨_, _, ⟨vf, hc2, ao, c, rfl, _, _⟩, _⟩ := h2 hk
      have := geom0Empty_c b ao f.length c w hc2
      rw [show emptyF (.mk k l s f e ee kids) = decide (f.length = 0) by rw [emptyF, if_neg hk]; cases f <;> simp]
      exact this
end Go.Proofs.YtfbgnonnbcejkaaGreatDoor
namespace Go.Proofs.YtfbgnonnbcejkaaGreatDoor
open Go.RowKit
theorem pointNew_c (l : Int) (hl : 0 ≤ l) (a3 : Option Addr) (n3 m3 : Nat) (w : World) : Calls Tryz.prog 28 #[.int .i64 l, .slice a3 n3 m3] w fun e w' => e = .returned (.pointer (some ⟨w.heap.size, 0, none⟩)) ∧ w' = w.alloc (.cells #[.int .i64 l, .int .i64 (strideF l), .slice a3 n3 m3, .int .i64 0] 101) := by
  have hC := Lib.hid (fun w' => layStride_c l hl w')
  generalize strideF l = st at *
  go_enter Tryz.func28, Tryz.ntmps28
  go_wp2_with (go_at_call 52; refine (hC.out _).mono ?_; rintro e w3 ⟨rfl, rfl⟩)
  go_ret
  exact ⟨rfl, rfl⟩
theorem lineNew_c (l : Int) (hl : 0 ≤ l) (a3 : Option Addr) (n3 m3 : Nat) (w : World) : Calls Tryz.prog 30 #[.int .i64 l, .slice a3 n3 m3] w fun e w' => e = .returned (.pointer (some ⟨w.heap.size, 0, none⟩)) ∧ w' = w.alloc (.cells #[.int .i64 l, .int .i64 (strideF l), .slice a3 n3 m3, .int .i64 0] 105) := by
  have hC := Lib.hid (fun w' => layStride_c l hl w')
  generalize strideF l = st at *
  go_enter Tryz.func30, Tryz.ntmps30
  go_wp2_with (go_at_call 52; refine (hC.out _).mono ?_; rintro e w3 ⟨rfl, rfl⟩)
  go_ret
  exact ⟨rfl, rfl⟩
theorem ringNew_c (l : Int) (hl : 0 ≤ l) (a3 : Option Addr) (n3 m3 : Nat) (w : World) : Calls Tryz.prog 32 #[.int .i64 l, .slice a3 n3 m3] w fun e w' => e = .returned (.pointer (some ⟨w.heap.size, 0, none⟩)) ∧ w' = w.alloc (.cells #[.int .i64 l, .int .i64 (strideF l), .slice a3 n3 m3, .int .i64 0] 106) := by
  have hC := Lib.hid (fun w' => layStride_c l hl w')
  generalize strideF l = st at *
  go_enter Tryz.func32, Tryz.ntmps32
  go_wp2_with (go_at_call 52; refine (hC.out _).mono ?_; rintro e w3 ⟨rfl, rfl⟩)
  go_ret
  exact ⟨rfl, rfl⟩
theorem polyNew_c (l : Int) (hl : 0 ≤ l) (a3 : Option Addr) (n3 m3 : Nat) (a4 : Option Addr) (n4 m4 : Nat) (w : World) : Calls Tryz.prog 34 #[.int .i64 l, .slice a3 n3 m3, .slice a4 n4 m4] w fun e w' => e = .returned (.pointer (some ⟨w.heap.size, 0, none⟩)) ∧ w' = w.alloc (.cells #[.int .i64 l, .int .i64 (strideF l), .slice a3 n3 m3, .int .i64 0, .slice a4 n4 m4] 110) := by
  have hC := Lib.hid (fun w' => layStride_c l hl w')
  generalize strideF l = st at *
  go_enter Tryz.func34, Tryz.ntmps34
  go_wp2_with (go_at_call 52; refine (hC.out _).mono ?_; rintro e w3 ⟨rfl, rfl⟩)
  go_ret
  exact ⟨rfl, rfl⟩
theorem mlineNew_c (l : Int) (hl : 0 ≤ l) (a3 : Option Addr) (n3 m3 : Nat) (a4 : Option Addr) (n4 m4 : Nat) (w : World) : Calls Tryz.prog 40 #[.int .i64 l, .slice a3 n3 m3, .slice a4 n4 m4] w fun e w' => e = .returned (.pointer (some ⟨w.heap.size, 0, none⟩)) ∧ w' = w.alloc (.cells #[.int .i64 l, .int .i64 (strideF l), .slice a3 n3 m3, .int .i64 0, .slice a4 n4 m4] 113) := by
  have hC := Lib.hid (fun w' => layStride_c l hl w')
  generalize strideF l = st at *
  go_enter Tryz.func40, Tryz.ntmps40
  go_wp2_with (go_at_call 52; refine (hC.out _).mono ?_; rintro e w3 ⟨rfl, rfl⟩)
  go_ret
  exact ⟨rfl, rfl⟩
theorem mpolyNew_c (l : Int) (hl : 0 ≤ l) (a3 : Option Addr) (n3 m3 : Nat) (a4 : Option Addr) (n4 m4 : Nat) (w : World) : Calls Tryz.prog 42 #[.int .i64 l, .slice a3 n3 m3, .slice a4 n4 m4] w fun e w' => e = .returned (.pointer (some ⟨w.heap.size, 0, none⟩)) ∧ w' = w.alloc (.cells #[.int .i64 l, .int .i64 (strideF l), .slice a3 n3 m3, .int .i64 0, .slice a4 n4 m4] 117) := by
  have hC := Lib.hid (fun w' => layStride_c l hl w')
  generalize strideF l = st at *
  go_enter Tryz.func42, Tryz.ntmps42
  go_wp2_with (go_at_call 52; refine (hC.out _).mono ?_; rintro e w3 ⟨rfl, rfl⟩)
  go_ret
  exact ⟨rfl, rfl⟩
theorem pointSrid_c (b : Nat) (s : Int) (u : Value) (w : World) (hc : w.cell? ⟨b, 3, none⟩ = some u) (hf : w.frozen? ⟨b, 3, none⟩ = false) : Calls Tryz.prog 29 #[.pointer (some ⟨b, 0, none⟩), .int .i64 s] w fun e w' => e = .returned (.pointer (some ⟨b, 0, none⟩)) ∧ w' = w.setCell ⟨b, 3, none⟩ (.int .i64 s) := by
  go_enter Tryz.func29, Tryz.ntmps29
  go_wp2
  go_ret
  exact ⟨rfl, rfl⟩
theorem lineSrid_c (b : Nat) (s : Int) (u : Value) (w : World) (hc : w.cell? ⟨b, 3, none⟩ = some u) (hf : w.frozen? ⟨b, 3, none⟩ = false) : Calls Tryz.prog 31 #[.pointer (some ⟨b, 0, none⟩), .int .i64 s] w fun e w' => e = .returned (.pointer (some ⟨b, 0, none⟩)) ∧ w' = w.setCell ⟨b, 3, none⟩ (.int .i64 s) := by
  go_enter Tryz.func31, Tryz.ntmps31
  go_wp2
  go_ret
  exact ⟨rfl, rfl⟩
theorem ringSrid_c (b : Nat) (s : Int) (u : Value) (w : World) (hc : w.cell? ⟨b, 3, none⟩ = some u) (hf : w.frozen? ⟨b, 3, none⟩ = false) : Calls Tryz.prog 33 #[.pointer (some ⟨b, 0, none⟩), .int .i64 s] w fun e w' => e = .returned (.pointer (some ⟨b, 0, none⟩)) ∧ w' = w.setCell ⟨b, 3, none⟩ (.int .i64 s) := by
  go_enter Tryz.func33, Tryz.ntmps33
  go_wp2
  go_ret
  exact ⟨rfl, rfl⟩
theorem polySrid_c (b : Nat) (s : Int) (u : Value) (w : World) (hc : w.cell? ⟨b, 3, none⟩ = some u) (hf : w.frozen? ⟨b, 3, none⟩ = false) : Calls Tryz.prog 36 #[.pointer (some ⟨b, 0, none⟩), .int .i64 s] w fun e w' => e = .returned (.pointer (some ⟨b, 0, none⟩)) ∧ w' = w.setCell ⟨b, 3, none⟩ (.int .i64 s) := by
  go_enter Tryz.func36, Tryz.ntmps36
  go_wp2
  go_ret
  exact ⟨rfl, rfl⟩
theorem mpointSrid_c (b : Nat) (s : Int) (u : Value) (w : World) (hc : w.cell? ⟨b, 3, none⟩ = some u) (hf : w.frozen? ⟨b, 3, none⟩ = false) : Calls Tryz.prog 39 #[.pointer (some ⟨b, 0, none⟩), .int .i64 s] w fun e w' => e = .returned (.pointer (some ⟨b, 0, none⟩)) ∧ w' = w.setCell ⟨b, 3, none⟩ (.int .i64 s) := by
  go_enter Tryz.func39, Tryz.ntmps39
  go_wp2
  go_ret
  exact ⟨rfl, rfl⟩
theorem mlineSrid_c (b : Nat) (s : Int) (u : Value) (w : World) (hc : w.cell? ⟨b, 3, none⟩ = some u) (hf : w.frozen? ⟨b, 3, none⟩ = false) : Calls Tryz.prog 41 #[.pointer (some ⟨b, 0, none⟩), .int .i64 s] w fun e w' => e = .returned (.pointer (some ⟨b, 0, none⟩)) ∧ w' = w.setCell ⟨b, 3, none⟩ (.int .i64 s) := by
  go_enter Tryz.func41, Tryz.ntmps41
  go_wp2
  go_ret
  exact ⟨rfl, rfl⟩
theorem mpolySrid_c (b : Nat) (s : Int) (u : Value) (w : World) (hc : w.cell? ⟨b, 3, none⟩ = some u) (hf : w.frozen? ⟨b, 3, none⟩ = false) : Calls Tryz.prog 44 #[.pointer (some ⟨b, 0, none⟩), .int .i64 s] w fun e w' => e = .returned (.pointer (some ⟨b, 0, none⟩)) ∧ w' = w.setCell ⟨b, 3, none⟩ (.int .i64 s) := by
  go_enter Tryz.func44, Tryz.ntmps44
  go_wp2
  go_ret
  exact ⟨rfl, rfl⟩
theorem collNew_c (w : World) : Calls Tryz.prog 45 #[] w fun e w' => e = .returned (.pointer (some ⟨w.heap.size, 0, none⟩)) ∧ w' = w.alloc (.cells #[.int .i64 0, .slice none 0 0, .int .i64 0] 120) := by
  go_enter Tryz.func45, Tryz.ntmps45
  go_wp2
  go_ret
  exact ⟨rfl, rfl⟩
theorem collSrid_c (b : Nat) (s : Int) (u : Value) (w : World) (hc : w.cell? ⟨b, 2, none⟩ = some u) (hf : w.frozen? ⟨b, 2, none⟩ = false) : Calls Tryz.prog 46 #[.pointer (some ⟨b, 0, none⟩), .int .i64 s] w fun e w' => e = .returned (.pointer (some ⟨b, 0, none⟩)) ∧ w' = w.setCell ⟨b, 2, none⟩ (.int .i64 s) := by
  go_enter Tryz.func46, Tryz.ntmps46
  go_wp2
  go_ret
  exact ⟨rfl, rfl⟩
end Go.Proofs.YtfbgnonnbcejkaaGreatDoor
namespace Go.Proofs.YtfbgnonnbcejkaaGreatDoor
open Go.RowKit

theorem ta_59_59 (a : Addr) (w : World) : (Instr.typeAssert (.iface 59 (.pointer (some a))) 44 59 true).run Tryz.prog w = .ok (.tuple #[.pointer (some a), .bool true]) w := by kernel_rfl
theorem ta_59_62 (a : Addr) (w : World) : (Instr.typeAssert (.iface 59 (.pointer (some a))) 44 62 true).run Tryz.prog w = .ok (.tuple #[.pointer none, .bool false]) w := by kernel_rfl
theorem ta_59_65 (a : Addr) (w : World) : (Instr.typeAssert (.iface 59 (.pointer (some a))) 44 65 true).run Tryz.prog w = .ok (.tuple #[.pointer none, .bool false]) w := by kernel_rfl
theorem ta_59_68 (a : Addr) (w : World) : (Instr.typeAssert (.iface 59 (.pointer (some a))) 44 68 true).run Tryz.prog w = .ok (.tuple #[.pointer none, .bool false]) w := by kernel_rfl
theorem ta_59_72 (a : Addr) (w : World) : (Instr.typeAssert (.iface 59 (.pointer (some a))) 44 72 true).run Tryz.prog w = .ok (.tuple #[.pointer none, .bool false]) w := by kernel_rfl
theorem ta_59_78 (a : Addr) (w : World) : (Instr.typeAssert (.iface 59 (.pointer (some a))) 44 78 true).run Tryz.prog w = .ok (.tuple #[.pointer none, .bool false]) w := by kernel_rfl
theorem ta_59_81 (a : Addr) (w : World) : (Instr.typeAssert (.iface 59 (.pointer (some a))) 44 81 true).run Tryz.prog w = .ok (.tuple #[.pointer none, .bool false]) w := by kernel_rfl
theorem ta_59_85 (a : Addr) (w : World) : (Instr.typeAssert (.iface 59 (.pointer (some a))) 44 85 true).run Tryz.prog w = .ok (.tuple #[.pointer none, .bool false]) w := by kernel_rfl
theorem ta_62_59 (a : Addr) (w : World) : (Instr.typeAssert (.iface 62 (.pointer (some a))) 44 59 true).run Tryz.prog w = .ok (.tuple #[.pointer none, .bool false]) w := by kernel_rfl
theorem ta_62_62 (a : Addr) (w : World) : (Instr.typeAssert (.iface 62 (.pointer (some a))) 44 62 true).run Tryz.prog w = .ok (.tuple #[.pointer (some a), .bool true]) w := by kernel_rfl
theorem ta_62_65 (a : Addr) (w : World) : (Instr.typeAssert (.iface 62 (.pointer (some a))) 44 65 true).run Tryz.prog w = .ok (.tuple #[.pointer none, .bool false]) w := by kernel_rfl
theorem ta_62_68 (a : Addr) (w : World) : (Instr.typeAssert (.iface 62 (.pointer (some a))) 44 68 true).run Tryz.prog w = .ok (.tuple #[.pointer none, .bool false]) w := by kernel_rfl
theorem ta_62_72 (a : Addr) (w : World) : (Instr.typeAssert (.iface 62 (.pointer (some a))) 44 72 true).run Tryz.prog w = .ok (.tuple #[.pointer none, .bool false]) w := by kernel_rfl
theorem ta_62_78 (a : Addr) (w : World) : (Instr.typeAssert (.iface 62 (.pointer (some a))) 44 78 true).run Tryz.prog w = .ok (.tuple #[.pointer none, .bool false]) w := by kernel_rfl
theorem ta_62_81 (a : Addr) (w : World) : (Instr.typeAssert (.iface 62 (.pointer (some a))) 44 81 true).run Tryz.prog w = .ok (.tuple #[.pointer none, .bool false]) w := by kernel_rfl
theorem ta_62_85 (a : Addr) (w : World) : (Instr.typeAssert (.iface 62 (.pointer (some a))) 44 85 true).run Tryz.prog w = .ok (.tuple #[.pointer none, .bool false]) w := by kernel_rfl
theorem ta_65_59 (a : Addr) (w : World) : (Instr.typeAssert (.iface 65 (.pointer (some a))) 44 59 true).run Tryz.prog w = .ok (.tuple #[.pointer none, .bool false]) w := by kernel_rfl
theorem ta_65_62 (a : Addr) (w : World) : (Instr.typeAssert (.iface 65 (.pointer (some a))) 44 62 true).run Tryz.prog w = .ok (.tuple #[.pointer none, .bool false]) w := by kernel_rfl
theorem ta_65_65 (a : Addr) (w : World) : (Instr.typeAssert (.iface 65 (.pointer (some a))) 44 65 true).run Tryz.prog w = .ok (.tuple #[.pointer (some a), .bool true]) w := by kernel_rfl
theorem ta_65_68 (a : Addr) (w : World) : (Instr.typeAssert (.iface 65 (.pointer (some a))) 44 68 true).run Tryz.prog w = .ok (.tuple #[.pointer none, .bool false]) w := by kernel_rfl
theorem ta_65_72 (a : Addr) (w : World) : (Instr.typeAssert (.iface 65 (.pointer (some a))) 44 72 true).run Tryz.prog w = .ok (.tuple #[.pointer none, .bool false]) w := by kernel_rfl
theorem ta_65_78 (a : Addr) (w : World) : (Instr.typeAssert (.iface 65 (.pointer (some a))) 44 78 true).run Tryz.prog w = .ok (.tuple #[.pointer none, .bool false]) w := by kernel_rfl
theorem ta_65_81 (a : Addr) (w : World) : (Instr.typeAssert (.iface 65 (.pointer (some a))) 44 81 true).run Tryz.prog w = .ok (.tuple #[.pointer none, .bool false]) w := by kernel_rfl
theorem ta_65_85 (a : Addr) (w : World) : (Instr.typeAssert (.iface 65 (.pointer (some a))) 44 85 true).run Tryz.prog w = .ok (.tuple #[.pointer none, .bool false]) w := by kernel_rfl
theorem ta_68_59 (a : Addr) (w : World) : (Instr.typeAssert (.iface 68 (.pointer (some a))) 44 59 true).run Tryz.prog w = .ok (.tuple #[.pointer none, .bool false]) w := by kernel_rfl
theorem ta_68_62 (a : Addr) (w : World) : (Instr.typeAssert (.iface 68 (.pointer (some a))) 44 62 true).run Tryz.prog w = .ok (.tuple #[.pointer none, .bool false]) w := by kernel_rfl
theorem ta_68_65 (a : Addr) (w : World) : (Instr.typeAssert (.iface 68 (.pointer (some a))) 44 65 true).run Tryz.prog w = .ok (.tuple #[.pointer none, .bool false]) w := by kernel_rfl
theorem ta_68_68 (a : Addr) (w : World) : (Instr.typeAssert (.iface 68 (.pointer (some a))) 44 68 true).run Tryz.prog w = .ok (.tuple #[.pointer (some a), .bool true]) w := by kernel_rfl
theorem ta_68_72 (a : Addr) (w : World) : (Instr.typeAssert (.iface 68 (.pointer (some a))) 44 72 true).run Tryz.prog w = .ok (.tuple #[.pointer none, .bool false]) w := by kernel_rfl
theorem ta_68_78 (a : Addr) (w : World) : (Instr.typeAssert (.iface 68 (.pointer (some a))) 44 78 true).run Tryz.prog w = .ok (.tuple #[.pointer none, .bool false]) w := by kernel_rfl
theorem ta_68_81 (a : Addr) (w : World) : (Instr.typeAssert (.iface 68 (.pointer (some a))) 44 81 true).run Tryz.prog w = .ok (.tuple #[.pointer none, .bool false]) w := by kernel_rfl
theorem ta_68_85 (a : Addr) (w : World) : (Instr.typeAssert (.iface 68 (.pointer (some a))) 44 85 true).run Tryz.prog w = .ok (.tuple #[.pointer none, .bool false]) w := by kernel_rfl
theorem ta_72_59 (a : Addr) (w : World) : (Instr.typeAssert (.iface 72 (.pointer (some a))) 44 59 true).run Tryz.prog w = .ok (.tuple #[.pointer none, .bool false]) w := by kernel_rfl
theorem ta_72_62 (a : Addr) (w : World) : (Instr.typeAssert (.iface 72 (.pointer (some a))) 44 62 true).run Tryz.prog w = .ok (.tuple #[.pointer none, .bool false]) w := by kernel_rfl
theorem ta_72_65 (a : Addr) (w : World) : (Instr.typeAssert (.iface 72 (.pointer (some a))) 44 65 true).run Tryz.prog w = .ok (.tuple #[.pointer none, .bool false]) w := by kernel_rfl
theorem ta_72_68 (a : Addr) (w : World) : (Instr.typeAssert (.iface 72 (.pointer (some a))) 44 68 true).run Tryz.prog w = .ok (.tuple #[.pointer none, .bool false]) w := by kernel_rfl
theorem ta_72_72 (a : Addr) (w : World) : (Instr.typeAssert (.iface 72 (.pointer (some a))) 44 72 true).run Tryz.prog w = .ok (.tuple #[.pointer (some a), .bool true]) w := by kernel_rfl
theorem ta_72_78 (a : Addr) (w : World) : (Instr.typeAssert (.iface 72 (.pointer (some a))) 44 78 true).run Tryz.prog w = .ok (.tuple #[.pointer none, .bool false]) w := by kernel_rfl
theorem ta_72_81 (a : Addr) (w : World) : (Instr.typeAssert (.iface 72 (.pointer (some a))) 44 81 true).run Tryz.prog w = .ok (.tuple #[.pointer none, .bool false]) w := by kernel_rfl
theorem ta_72_85 (a : Addr) (w : World) : (Instr.typeAssert (.iface 72 (.pointer (some a))) 44 85 true).run Tryz.prog w = .ok (.tuple #[.pointer none, .bool false]) w := by kernel_rfl
theorem ta_78_59 (a : Addr) (w : World) : (Instr.typeAssert (.iface 78 (.pointer (some a))) 44 59 true).run Tryz.prog w = .ok (.tuple #[.pointer none, .bool false]) w := by kernel_rfl
theorem ta_78_62 (a : Addr) (w : World) : (Instr.typeAssert (.iface 78 (.pointer (some a))) 44 62 true).run Tryz.prog w = .ok (.tuple #[.pointer none, .bool false]) w := by kernel_rfl
theorem ta_78_65 (a : Addr) (w : World) : (Instr.typeAssert (.iface 78 (.pointer (some a))) 44 65 true).run Tryz.prog w = .ok (.tuple #[.pointer none, .bool false]) w := by kernel_rfl
theorem ta_78_68 (a : Addr) (w : World) : (Instr.typeAssert (.iface 78 (.pointer (some a))) 44 68 true).run Tryz.prog w = .ok (.tuple #[.pointer none, .bool false]) w := by kernel_rfl
theorem ta_78_72 (a : Addr) (w : World) : (Instr.typeAssert (.iface 78 (.pointer (some a))) 44 72 true).run Tryz.prog w = .ok (.tuple #[.pointer none, .bool false]) w := by kernel_rfl
theorem ta_78_78 (a : Addr) (w : World) : (Instr.typeAssert (.iface 78 (.pointer (some a))) 44 78 true).run Tryz.prog w = .ok (.tuple #[.pointer (some a), .bool true]) w := by kernel_rfl
theorem ta_78_81 (a : Addr) (w : World) : (Instr.typeAssert (.iface 78 (.pointer (some a))) 44 81 true).run Tryz.prog w = .ok (.tuple #[.pointer none, .bool false]) w := by kernel_rfl
theorem ta_78_85 (a : Addr) (w : World) : (Instr.typeAssert (.iface 78 (.pointer (some a))) 44 85 true).run Tryz.prog w = .ok (.tuple #[.pointer none, .bool false]) w := by kernel_rfl
theorem ta_81_59 (a : Addr) (w : World) : (Instr.typeAssert (.iface 81 (.pointer (some a))) 44 59 true).run Tryz.prog w = .ok (.tuple #[.pointer none, .bool false]) w := by kernel_rfl
theorem ta_81_62 (a : Addr) (w : World) : (Instr.typeAssert (.iface 81 (.pointer (some a))) 44 62 true).run Tryz.prog w = .ok (.tuple #[.pointer none, .bool false]) w := by kernel_rfl
theorem ta_81_65 (a : Addr) (w : World) : (Instr.typeAssert (.iface 81 (.pointer (some a))) 44 65 true).run Tryz.prog w = .ok (.tuple #[.pointer none, .bool false]) w := by kernel_rfl
theorem ta_81_68 (a : Addr) (w : World) : (Instr.typeAssert (.iface 81 (.pointer (some a))) 44 68 true).run Tryz.prog w = .ok (.tuple #[.pointer none, .bool false]) w := by kernel_rfl
theorem ta_81_72 (a : Addr) (w : World) : (Instr.typeAssert (.iface 81 (.pointer (some a))) 44 72 true).run Tryz.prog w = .ok (.tuple #[.pointer none, .bool false]) w := by kernel_rfl
theorem ta_81_78 (a : Addr) (w : World) : (Instr.typeAssert (.iface 81 (.pointer (some a))) 44 78 true).run Tryz.prog w = .ok (.tuple #[.pointer none, .bool false]) w := by kernel_rfl
theorem ta_81_81 (a : Addr) (w : World) : (Instr.typeAssert (.iface 81 (.pointer (some a))) 44 81 true).run Tryz.prog w = .ok (.tuple #[.pointer (some a), .bool true]) w := by kernel_rfl
theorem ta_81_85 (a : Addr) (w : World) : (Instr.typeAssert (.iface 81 (.pointer (some a))) 44 85 true).run Tryz.prog w = .ok (.tuple #[.pointer none, .bool false]) w := by kernel_rfl
theorem ta_85_59 (a : Addr) (w : World) : (Instr.typeAssert (.iface 85 (.pointer (some a))) 44 59 true).run Tryz.prog w = .ok (.tuple #[.pointer none, .bool false]) w := by kernel_rfl
theorem ta_85_62 (a : Addr) (w : World) : (Instr.typeAssert (.iface 85 (.pointer (some a))) 44 62 true).run Tryz.prog w = .ok (.tuple #[.pointer none, .bool false]) w := by kernel_rfl
theorem ta_85_65 (a : Addr) (w : World) : (Instr.typeAssert (.iface 85 (.pointer (some a))) 44 65 true).run Tryz.prog w = .ok (.tuple #[.pointer none, .bool false]) w := by kernel_rfl
theorem ta_85_68 (a : Addr) (w : World) : (Instr.typeAssert (.iface 85 (.pointer (some a))) 44 68 true).run Tryz.prog w = .ok (.tuple #[.pointer none, .bool false]) w := by kernel_rfl
theorem ta_85_72 (a : Addr) (w : World) : (Instr.typeAssert (.iface 85 (.pointer (some a))) 44 72 true).run Tryz.prog w = .ok (.tuple #[.pointer none, .bool false]) w := by kernel_rfl
theorem ta_85_78 (a : Addr) (w : World) : (Instr.typeAssert (.iface 85 (.pointer (some a))) 44 78 true).run Tryz.prog w = .ok (.tuple #[.pointer none, .bool false]) w := by kernel_rfl
theorem ta_85_81 (a : Addr) (w : World) : (Instr.typeAssert (.iface 85 (.pointer (some a))) 44 81 true).run Tryz.prog w = .ok (.tuple #[.pointer none, .bool false]) w := by kernel_rfl
theorem ta_85_85 (a : Addr) (w : World) : (Instr.typeAssert (.iface 85 (.pointer (some a))) 44 85 true).run Tryz.prog w = .ok (.tuple #[.pointer (some a), .bool true]) w := by kernel_rfl
end Go.Proofs.YtfbgnonnbcejkaaGreatDoor
