/- Lemmas on the way to the law FnWKTParts, without conditions beside those that each states: The small functions of the spec | Rows of numbers that a call reads: goodEnds, zzFits3 | The argument as a tree; zzFits3 | LayoutOf | gLayouts | Weight | Weight: the walk. -/
import Derived.Test.YtfbgnonnbcejkaaGreatDoorY04
import Derived.LoopTactic
import Derived.BigQuiet
namespace Go.Proofs.YtfbgnonnbcejkaaGreatDoor
open Go.RowKit

def strideF (l : Int) : Int := if l < 1 then 0 else if l = 1 then 2 else if l = 2 ∨ l = 3 then 3 else l
theorem stride_c (l : Int) (w : World) : Calls Tryz.prog 22 #[.int .i64 l] w fun e w' => e = .returned (.int .i64 (strideF l)) ∧ w = w' := by
  have hs : Hid (strideF l = if l < 1 then 0 else if l = 1 then 2 else if l = 2 ∨ l = 3 then 3 else l) := rfl
  by_cases h1 : l < 1
  · have h : Hid (strideF l = 0) := Lib.hid (by rw [hs.out, if_pos h1])
    go_enter Tryz.func22, Tryz.ntmps22
    go_wp2
    go_ret
    exact ⟨ret_int h.out.symm, rfl⟩
  · by_cases h2 : l = 1
    · have h : Hid (strideF l = 2) := Lib.hid (by rw [hs.out, if_neg h1, if_pos h2])
      subst h2
      go_enter Tryz.func22, Tryz.ntmps22
      go_wp2
      go_ret
      exact ⟨ret_int h.out.symm, rfl⟩
    · by_cases h3 : l = 2
      · have h : Hid (strideF l = 3) := Lib.hid (by rw [hs.out, if_neg h1, if_neg h2, if_pos (Or.inl h3)])
        subst h3
        go_enter Tryz.func22, Tryz.ntmps22
        go_wp2
        go_ret
        exact ⟨ret_int h.out.symm, rfl⟩
      · by_cases h4 : l = 3
        · have h : Hid (strideF l = 3) := Lib.hid (by rw [hs.out, if_neg h1, if_neg h2, if_pos (Or.inr h4)])
          subst h4
          go_enter Tryz.func22, Tryz.ntmps22
          go_wp2
          go_ret
          exact ⟨ret_int h.out.symm, rfl⟩
        · have h : Hid (strideF l = l) := Lib.hid (by rw [hs.out, if_neg h1, if_neg h2, if_neg (by omega)])
          have b1 : (l == 1) = false := by simpa using h2
          have b2 : (l == 2) = false := by simpa using h3
          have b3 : (l == 3) = false := by simpa using h4
          go_enter Tryz.func22, Tryz.ntmps22
          go_wp2
          go_ret
          exact ⟨ret_int h.out.symm, rfl⟩

def kidOfF (k : Int) : Int := if 4 ≤ k ∧ k ≤ 6 then k - 3 else 0
theorem kidOf_c (k : Int) (w : World) : Calls Tryz.prog 24 #[.int .i64 k] w fun e w' => e = .returned (.int .i64 (kidOfF k)) ∧ w = w' := by
  by_cases h1 : 4 ≤ k
  · by_cases h2 : k ≤ 6
    · have h : Hid (kidOfF k = k - 3) := Lib.hid (if_pos ⟨h1, h2⟩)
      go_enter Tryz.func24, Tryz.ntmps24
      go_wp2
      go_ret
      exact ⟨ret_int h.out.symm, rfl⟩
    · have h : Hid (kidOfF k = 0) := Lib.hid (if_neg (fun hh => h2 hh.2))
      go_enter Tryz.func24, Tryz.ntmps24
      go_wp2
      go_ret
      exact ⟨ret_int h.out.symm, rfl⟩
  · have h : Hid (kidOfF k = 0) := Lib.hid (if_neg (fun hh => h1 hh.1))
    go_enter Tryz.func24, Tryz.ntmps24
    go_wp2
    go_ret
    exact ⟨ret_int h.out.symm, rfl⟩

def coverF (a b : Int) : Int := if (a = 2 ∧ b = 3) ∨ (a = 3 ∧ b = 2) then 4 else max a b
theorem cover_c (a b : Int) (w : World) : Calls Tryz.prog 16 #[.int .i64 a, .int .i64 b] w fun e w' => e = .returned (.int .i64 (coverF a b)) ∧ w = w' := by
  by_cases h1 : a = 2 ∧ b = 3
  · obtain ⟨rfl, rfl⟩ := h1
    go_enter Tryz.func16, Tryz.ntmps16
    go_wp2
    go_ret
    exact ⟨rfl, rfl⟩
  · by_cases h2 : a = 3 ∧ b = 2
    · obtain ⟨rfl, rfl⟩ := h2
      go_enter Tryz.func16, Tryz.ntmps16
      go_wp2
      go_ret
      exact ⟨rfl, rfl⟩
    · have h : Hid (coverF a b = max a b) := Lib.hid (if_neg (by omega))
      by_cases ha2 : a = 2
      · have hb3 : (b == 3) = false := by rw [beq_eq_false_iff_ne]; omega
        subst ha2
        clear h1 h2
        go_enter Tryz.func16, Tryz.ntmps16
        go_wp2
        go_ret
        exact ⟨ret_int h.out.symm, rfl⟩
      · have ha2' : (a == 2) = false := by simpa using ha2
        by_cases ha3 : a = 3
        · have hb2 : (b == 2) = false := by rw [beq_eq_false_iff_ne]; omega
          subst ha3
          clear h1 h2 ha2
          go_enter Tryz.func16, Tryz.ntmps16
          go_wp2
          go_ret
          exact ⟨ret_int h.out.symm, rfl⟩
        · have ha3' : (a == 3) = false := by simpa using ha3
          clear h1 h2 ha2 ha3
          go_enter Tryz.func16, Tryz.ntmps16
          go_wp2
          go_ret
          exact ⟨ret_int h.out.symm, rfl⟩
end Go.Proofs.YtfbgnonnbcejkaaGreatDoor
namespace Go.Proofs.YtfbgnonnbcejkaaGreatDoor
open Go.RowKit

def I64 (x : Int) : Prop := -9223372036854775808 ≤ x ∧ x ≤ 9223372036854775807
/-- A slice whose elements, of so many cells each, start where 'at' says, all in blocks below K. -/
def SlAt (K sz : Nat) (v : Value) (n : Nat) (at' : Nat → Nat → Nat → Prop) : Prop :=
  ∃ ao c, v = .slice ao n c ∧ (n ≤ c ∧ n ≤ 1048576) ∧ (0 < n → ∃ b o, ao = some ⟨b, o, none⟩ ∧ b < K ∧ ∀ j, j < n → at' j b (o + j * sz))
def IntsAt (K : Nat) (w : World) (v : Value) (xs : List Int) : Prop :=
  SlAt K 1 v xs.length (fun j b o => w.cell? ⟨b, o, none⟩ = some (.int .i64 (xs.getD j 0)) ∧ I64 (xs.getD j 0))
theorem IntsAt.below {K : Nat} {w w' : World} {v : Value} {xs : List Int} (h : IntsAt K w v xs) (hb : Below K w w') : IntsAt K w' v xs := by
  obtain ⟨ao, c, h1, h2, h3⟩ := h
  refine ⟨ao, c, h1, h2, fun hn => ?_⟩
  obtain ⟨b, o, h4, h5, h6⟩ := h3 hn
  exact ⟨b, o, h4, h5, fun j hj => ⟨(World.cell?_of_block (a := ⟨b, _, none⟩) (hb.block b h5)).trans (h6 j hj).1, (h6 j hj).2⟩⟩

/-- goodEnds. -/
def goodEndsF (stride : Int) (single : Bool) : List Int → Int → Int × Bool
  | [], f => (f, true)
  | e :: r, f => if e < f ∨ (e - f) % stride ≠ 0 ∨ (single = true ∧ stride < e - f) then (f, false) else goodEndsF stride single r e

theorem getD_drop (xs : List Int) (i : Nat) (h : i < xs.length) : xs.drop i = xs.getD i 0 :: xs.drop (i + 1) := by
  rw [List.drop_eq_getElem_cons h, List.getD_eq_getElem?_getD, List.getElem?_eq_getElem h]; rfl

set_option maxHeartbeats 1600000 in
theorem goodEnds_c (K : Nat) (v : Value) (xs : List Int) (f s : Int) (single : Bool) (w : World) (h : IntsAt K w v xs) (hf0 : 0 ≤ f) (hf1 : I64 f) (hs0 : 0 < s) (hs1 : I64 s) :
    Calls Tryz.prog 23 #[v, .int .i64 f, .int .i64 s, .bool single] w fun e w' => e = .returned (.tuple #[.int .i64 (goodEndsF s single xs f).1, .bool (goodEndsF s single xs f).2]) ∧ w = w' := by
  obtain ⟨ao, c, rfl, ⟨hc, hl⟩, hx⟩ := h
  have Hx := Lib.hid hx
  clear hx
  obtain ⟨hs2, hs3⟩ := hs1
  obtain ⟨hf2, hf3⟩ := hf1
  have hsz : (s == 0) = false := by rw [beq_eq_false_iff_ne]; omega
  go_enter Tryz.func23, Tryz.ntmps23
  go_wp2
  go_loopw [1, 14] (fun u i wr => w = wr ∧ ∃ (k : Nat) (g : Int), k ≤ xs.length ∧ i = .int .i64 k ∧ u = .int .i64 g ∧ 0 ≤ g ∧ g ≤ 9223372036854775807 ∧ goodEndsF s single (xs.drop k) g = goodEndsF s single xs f) (fun _ i _ => xs.length - (intOf i).toNat)
  case atStart => exact ⟨rfl, 0, f, Nat.zero_le _, rfl, rfl, hf0, hf3, rfl⟩
  case round =>
    obtain ⟨rfl, k, g, hk, rfl, rfl, hg0, hg1, hr⟩ := hrel
    by_cases hkl : k < xs.length
    · obtain ⟨b, o, rfl, hbK, ha⟩ := Hx.out (by omega)
      obtain ⟨hcell, he0, he1⟩ := ha k hkl
      rw [getD_drop xs k hkl] at hr
      generalize xs.getD k 0 = e at *
      rw [Nat.mul_one] at hcell
      simp only [goodEndsF] at hr
      clear ha
      by_cases h1 : e < g
      · rw [if_pos (Or.inl h1)] at hr
        have Hr := Lib.hid hr
        clear hr
        go_wp2
        go_ret2
        exact ⟨by rw [← Hr.out]; rfl, rfl⟩
      · have hmod : (e - g).tmod s = (e - g) % s := Int.tmod_eq_emod_of_nonneg (by omega)
        by_cases h2 : (e - g) % s = 0
        · have h2' : ((e - g).tmod s != 0) = false := by rw [hmod, h2]; rfl
          clear hmod
          cases single
          · rw [if_neg (fun hh => hh.elim h1 (fun hh => hh.elim (fun q => q h2) (fun q => Bool.noConfusion q.1)))] at hr
            have Hr := Lib.hid hr
            clear hr
            go_wp2
            go_roundw
            case rel => exact ⟨trivial, k + 1, e, by omega, by go_num, rfl, by omega, he1, Hr.out⟩
            case measure => simp [intOf]; omega
          · by_cases h3 : s < e - g
            · rw [if_pos (Or.inr (Or.inr ⟨rfl, h3⟩))] at hr
              have Hr := Lib.hid hr
              clear hr
              go_wp2
              go_ret2
              exact ⟨by rw [← Hr.out]; rfl, rfl⟩
            · rw [if_neg (fun hh => hh.elim h1 (fun hh => hh.elim (fun q => q h2) (fun q => h3 q.2)))] at hr
              have Hr := Lib.hid hr
              clear hr
              go_wp2
              go_roundw
              case rel => exact ⟨trivial, k + 1, e, by omega, by go_num, rfl, by omega, he1, Hr.out⟩
              case measure => simp [intOf]; omega
        · rw [if_pos (Or.inr (Or.inl h2))] at hr
          have Hr := Lib.hid hr
          have h2' : ((e - g).tmod s != 0) = true := by rw [hmod, bne_iff_ne]; exact h2
          clear hr hmod
          go_wp2
          go_ret2
          exact ⟨by rw [← Hr.out]; rfl, rfl⟩
    · have hke : k = xs.length := by omega
      rw [hke, List.drop_length] at hr
      have Hr := Lib.hid hr
      clear hr hke
      go_wp2
      go_ret2
      exact ⟨by rw [← Hr.out]; rfl, rfl⟩
end Go.Proofs.YtfbgnonnbcejkaaGreatDoor
namespace Go.Proofs.YtfbgnonnbcejkaaGreatDoor
open Go.RowKit

def IntssAt (K : Nat) (w : World) (v : Value) (xss : List (List Int)) : Prop :=
  SlAt K 1 v xss.length (fun j b o => ∃ u, w.cell? ⟨b, o, none⟩ = some u ∧ IntsAt K w u (xss.getD j []))
theorem IntssAt.below {K : Nat} {w w' : World} {v : Value} {xs : List (List Int)} (h : IntssAt K w v xs) (hb : Below K w w') : IntssAt K w' v xs := by
  obtain ⟨ao, c, h1, h2, h3⟩ := h
  refine ⟨ao, c, h1, h2, fun hn => ?_⟩
  obtain ⟨b, o, h4, h5, h6⟩ := h3 hn
  refine ⟨b, o, h4, h5, fun j hj => ?_⟩
  obtain ⟨u, h7, h8⟩ := h6 j hj
  exact ⟨u, (World.cell?_of_block (a := ⟨b, _, none⟩) (hb.block b h5)).trans h7, h8.below hb⟩
/-- Numbers by their bits. -/
def FloatsAt (K : Nat) (w : World) (v : Value) (xs : List Nat) : Prop :=
  SlAt K 1 v xs.length (fun j b o => w.cell? ⟨b, o, none⟩ = some (.float .f64 (xs.getD j 0)) ∧ xs.getD j 0 < 18446744073709551616)
theorem FloatsAt.below {K : Nat} {w w' : World} {v : Value} {xs : List Nat} (h : FloatsAt K w v xs) (hb : Below K w w') : FloatsAt K w' v xs := by
  obtain ⟨ao, c, h1, h2, h3⟩ := h
  refine ⟨ao, c, h1, h2, fun hn => ?_⟩
  obtain ⟨b, o, h4, h5, h6⟩ := h3 hn
  exact ⟨b, o, h4, h5, fun j hj => ⟨(World.cell?_of_block (a := ⟨b, _, none⟩) (hb.block b h5)).trans (h6 j hj).1, (h6 j hj).2⟩⟩

/-- A geometry as a tree. -/
inductive Geo where
  | mk (kind layout srid : Int) (flat : List Nat) (ends : List Int) (endss : List (List Int)) (kids : List Geo)
namespace Geo
def kind : Geo → Int | mk k _ _ _ _ _ _ => k
def layout : Geo → Int | mk _ l _ _ _ _ _ => l
def srid : Geo → Int | mk _ _ s _ _ _ _ => s
def flat : Geo → List Nat | mk _ _ _ f _ _ _ => f
def ends : Geo → List Int | mk _ _ _ _ e _ _ => e
def endss : Geo → List (List Int) | mk _ _ _ _ _ e _ => e
def kids : Geo → List Geo | mk _ _ _ _ _ _ k => k
end Geo
/-- The seven cells of a geometry. -/
def CellsAt (w : World) (b o : Nat) (vs : List Value) : Prop := ∀ j, j < vs.length → w.cell? ⟨b, o + j, none⟩ = some (vs.getD j (.int .i64 0))
mutual
/-- What a geometry's seven values read as. -/
def GeoVs (K : Nat) (w : World) (vs : List Value) : Geo → Prop
  | .mk k l s f e ee kids => ∃ vf ve vee vk, vs = [.int .i64 k, .int .i64 l, .int .i64 s, vf, ve, vee, vk] ∧ I64 k ∧ I64 l ∧ I64 s ∧
      FloatsAt K w vf f ∧ IntsAt K w ve e ∧ IntssAt K w vee ee ∧ ∃ ao c, vk = .slice ao kids.length c ∧ (kids.length ≤ c ∧ kids.length ≤ 1048576) ∧ ∃ b o, (0 < kids.length → ao = some ⟨b, o, none⟩ ∧ b < K) ∧ GeosAt K w b o kids
/-- Geometries one behind another. -/
def GeosAt (K : Nat) (w : World) (b o : Nat) : List Geo → Prop
  | [] => True
  | g :: r => (∃ vs, CellsAt w b o vs ∧ GeoVs K w vs g) ∧ GeosAt K w b (o + 7) r
end
def GeoAt (K : Nat) (w : World) (v : Value) (g : Geo) : Prop := ∃ vs, v = .agg vs.toArray ∧ GeoVs K w vs g
mutual
theorem GeoVs.below {K : Nat} {w w' : World} (hb : Below K w w') : ∀ (g : Geo) (vs : List Value), GeoVs K w vs g → GeoVs K w' vs g
  | .mk k l s f e ee kids, vs, h => by
    obtain ⟨vf, ve, vee, vk, h0, h1, h2, h3, h4, h5, h6, ao, c, h7, h8, b, o, h9, h10⟩ := h
    refine ⟨vf, ve, vee, vk, h0, h1, h2, h3, h4.below hb, h5.below hb, h6.below hb, ao, c, h7, h8, b, o, h9, ?_⟩
    rcases Nat.eq_zero_or_pos kids.length with hz | hz
    · have : kids = [] := List.length_eq_zero_iff.1 hz
      subst this
      simp only [GeosAt]
    · exact GeosAt.below hb kids b o (h9 hz).2 h10
theorem GeosAt.below {K : Nat} {w w' : World} (hb : Below K w w') : ∀ (l : List Geo) (b o : Nat), b < K → GeosAt K w b o l → GeosAt K w' b o l
  | [], _, _, _, _ => by simp only [GeosAt]
  | g :: r, b, o, hbK, h => by
    obtain ⟨⟨vs, h1, h2⟩, h3⟩ := h
    exact ⟨⟨vs, fun j hj => (World.cell?_of_block (a := ⟨b, _, none⟩) (hb.block b hbK)).trans (h1 j hj), GeoVs.below hb g vs h2⟩, GeosAt.below hb r b (o + 7) hbK h3⟩
end
theorem GeosAt.get {K : Nat} {w : World} : ∀ (l : List Geo) (b o j : Nat) (g : Geo), GeosAt K w b o l → l[j]? = some g → ∃ vs, CellsAt w b (o + j * 7) vs ∧ GeoVs K w vs g
  | [], _, _, _, _, _, h => by simp at h
  | g :: r, b, o, 0, g', h, hj => by
    obtain ⟨h1, _⟩ := h
    simp at hj
    subst hj
    simpa using h1
  | g :: r, b, o, j + 1, g', h, hj => by
    obtain ⟨_, h3⟩ := h
    have := GeosAt.get r b (o + 7) j g' h3 (by simpa using hj)
    rw [show o + (j + 1) * 7 = o + 7 + j * 7 by omega]
    exact this

set_option maxHeartbeats 800000 in
theorem fits3_c (K : Nat) (v : Value) (xss : List (List Int)) (w : World) (h : IntssAt K w v xss) :
    Calls Tryz.prog 12 #[v] w fun e w' => e = .returned (.bool true) ∧ w = w' := by
  obtain ⟨ao, c, rfl, ⟨hc, hl⟩, hx⟩ := h
  have Hx := Lib.hid hx
  clear hx
  go_enter Tryz.func12, Tryz.ntmps12
  go_wp2
  go_loopw [10] (fun i wr => w = wr ∧ ∃ k : Nat, k ≤ xss.length ∧ i = .int .i64 k) (fun i _ => xss.length - (intOf i).toNat)
  case atStart => exact ⟨rfl, 0, Nat.zero_le _, rfl⟩
  case round =>
    obtain ⟨rfl, k, hk, rfl⟩ := hrel
    by_cases hkl : k < xss.length
    · obtain ⟨b, o, rfl, hbK, ha⟩ := Hx.out (by omega)
      obtain ⟨u, hcell, ao2, c2, rfl, ⟨hc2, hl2⟩, _⟩ := ha k hkl
      rw [Nat.mul_one] at hcell
      clear ha
      generalize (xss.getD k []).length = n at *
      go_wp2
      go_roundw
      case rel => exact ⟨trivial, k + 1, by omega, by go_num⟩
      case measure => simp [intOf]; omega
    · go_wp2
      go_ret
      exact ⟨rfl, rfl⟩
end Go.Proofs.YtfbgnonnbcejkaaGreatDoor
namespace Go.Proofs.YtfbgnonnbcejkaaGreatDoor
open Go.RowKit

mutual
def layoutOfF : Geo → Int
  | .mk k l _ _ _ _ kids => if k ≠ 7 ∨ l ≠ 0 then l else coverAll l kids
def coverAll (acc : Int) : List Geo → Int
  | [] => acc
  | g :: r => coverAll (coverF acc (layoutOfF g)) r
end
mutual
/-- Each layout is a number of 64 bits. -/
theorem layoutOf_I64 {K : Nat} {w : World} : ∀ (g : Geo) (vs : List Value), GeoVs K w vs g → I64 (layoutOfF g)
  | .mk k l s f e ee kids, vs, h => by
    obtain ⟨vf, ve, vee, vk, h0, h1, h2, h3, h4, h5, h6, ao, c, h7, h8, b, o, h9, h10⟩ := h
    unfold layoutOfF
    split
    · exact h2
    · exact coverAll_I64 kids l b o h2 h10
theorem coverAll_I64 {K : Nat} {w : World} : ∀ (l : List Geo) (a : Int) (b o : Nat), I64 a → GeosAt K w b o l → I64 (coverAll a l)
  | [], a, _, _, h, _ => by unfold coverAll; exact h
  | g :: r, a, b, o, h, hg => by
    obtain ⟨⟨vs, h1, h2⟩, h3⟩ := hg
    unfold coverAll
    refine coverAll_I64 r _ b (o + 7) ?_ h3
    have := layoutOf_I64 g vs h2
    unfold coverF I64 at *
    split <;> omega
end
theorem coverAll_drop (kids : List Geo) (k : Nat) (a : Int) (g : Geo) (h : kids[k]? = some g) : coverAll a (kids.drop k) = coverAll (coverF a (layoutOfF g)) (kids.drop (k + 1)) := by
  obtain ⟨hk, he⟩ := List.getElem?_eq_some_iff.1 h
  rw [List.drop_eq_getElem_cons hk, he]
  simp only [coverAll]

theorem GeoVs.seven {K : Nat} {w : World} {vs : List Value} {g : Geo} (h : GeoVs K w vs g) : ∃ (k l s : Int) (a3 a4 a5 a6 : Option Addr) (n3 n4 n5 n6 m3 m4 m5 m6 : Nat),
    vs = [.int .i64 k, .int .i64 l, .int .i64 s, .slice a3 n3 m3, .slice a4 n4 m4, .slice a5 n5 m5, .slice a6 n6 m6] := by
  cases g with
  | mk k l s f e ee kids =>
  obtain ⟨vf, ve, vee, vk, rfl, _, _, _, ⟨a3, c3, rfl, _⟩, ⟨a4, c4, rfl, _⟩, ⟨a5, c5, rfl, _⟩, ao, c, rfl, _⟩ := h
  exact ⟨_, _, _, _, _, _, _, _, _, _, _, _, _, _, _, rfl⟩
theorem seven_cells {w : World} {b o : Nat} {u0 u1 u2 u3 u4 u5 u6 : Value} (h : CellsAt w b o [u0, u1, u2, u3, u4, u5, u6]) :
    w.cell? ⟨b, o, none⟩ = some u0 ∧ w.cell? ⟨b, o + 1, none⟩ = some u1 ∧ w.cell? ⟨b, o + 2, none⟩ = some u2 ∧ w.cell? ⟨b, o + 3, none⟩ = some u3 ∧ w.cell? ⟨b, o + 4, none⟩ = some u4 ∧ w.cell? ⟨b, o + 5, none⟩ = some u5 ∧ w.cell? ⟨b, o + 6, none⟩ = some u6 :=
  ⟨h 0 (by simp), h 1 (by simp), h 2 (by simp), h 3 (by simp), h 4 (by simp), h 5 (by simp), h 6 (by simp)⟩

set_option maxHeartbeats 1600000 in
theorem layoutOf_c : ∀ (n : Nat) (g : Geo), SizeOf.sizeOf g ≤ n → ∀ (K : Nat) (w : World) (v : Value), GeoAt K w v g → K ≤ w.heap.size →
    Calls Tryz.prog 9 #[v] w fun e w' => e = .returned (.int .i64 (layoutOfF g)) ∧ Below w.heap.size w w' := by
  intro n
  induction n with
  | zero => intro g hg; cases g; simp at hg
  | succ n ih =>
    intro g hgn K w v hg hK
    obtain ⟨vs, rfl, hv⟩ := hg
    cases g with
    | mk k l s f e ee kids =>
    obtain ⟨vf, ve, vee, vk, rfl, h1, h2, h3, h4, h5, h6, ao, c, rfl, ⟨h8, hkl⟩, b, o, h9, h10⟩ := hv
    have hF : layoutOfF (.mk k l s f e ee kids) = if k ≠ 7 ∨ l ≠ 0 then l else coverAll l kids := by rw [layoutOfF]
    by_cases hk : k = 7
    · by_cases hl : l = 0
      · rw [if_neg (by omega)] at hF
        subst hk hl
        have HF := Lib.hid hF
        have Hg := Lib.hid h10
        have H9 := Lib.hid h9
        have Hih := Lib.hid ih
        clear hF h10 h9 ih h1 h2 h3 h4 h5 h6
        go_enter Tryz.func9, Tryz.ntmps9
        go_wp2
        go_loopw [3, 19] (fun a i wr => ∃ (j : Nat) (acc : Int), j ≤ kids.length ∧ i = .int .i64 j ∧ a = .int .i64 acc ∧ coverAll acc (kids.drop j) = coverAll 0 kids ∧ Below w.heap.size w wr) (fun _ i _ => kids.length - (intOf i).toNat)
        case atStart => exact ⟨0, 0, Nat.zero_le _, rfl, rfl, rfl, (Below.refl _ _).alloc (Nat.le_refl _) _⟩
        case round =>
          obtain ⟨j, acc, hj, rfl, rfl, hr, hb⟩ := hrel
          by_cases hjl : j < kids.length
          · obtain ⟨rfl, hbK⟩ := H9.out (by omega)
            have hget : kids[j]? = some kids[j] := List.getElem?_eq_getElem hjl
            rw [coverAll_drop kids j acc _ hget] at hr
            obtain ⟨us, hc, hu⟩ := GeosAt.get kids b o j _ (GeosAt.below (hb.mono hK) kids b o hbK Hg.out) hget
            obtain ⟨q0, q1, q2, a3, a4, a5, a6, n3, n4, n5, n6, m3, m4, m5, m6, rfl⟩ := hu.seven
            obtain ⟨c0, c1, c2, c3, c4, c5, c6⟩ := seven_cells hc
            have hsz : SizeOf.sizeOf kids[j] ≤ n := by
              have h1 := List.sizeOf_lt_of_mem (List.getElem_mem hjl)
              simp at hgn
              omega
            have hC : Hid (∀ w', Below wr.heap.size wr w' → Calls Tryz.prog 9 #[.agg #[.int .i64 q0, .int .i64 q1, .int .i64 q2, .slice a3 n3 m3, .slice a4 n4 m4, .slice a5 n5 m5, .slice a6 n6 m6]] w' fun e w'' => e = .returned (.int .i64 (layoutOfF kids[j])) ∧ Below w'.heap.size w' w'') :=
              Lib.hid fun w' hw' => Hih.out kids[j] hsz K w' _ ⟨_, rfl, GeoVs.below (hw'.mono (by have := hb.size; omega)) _ _ hu⟩ (by have := hb.size; have := hw'.size; omega)
            have Hr := Lib.hid hr
            have Hb := Lib.hid hb
            clear hr hb hc hu hget hsz
            generalize layoutOfF kids[j] = lj at *
            go_wp2_with (first | (go_at_call 9; refine (hC.out _ (by first | exact (Below.refl _ _).alloc (Nat.le_refl _) _)).mono ?_; rintro e w3 ⟨rfl, hb3⟩) | (go_at_call 16; refine (cover_c acc lj _).mono ?_; rintro e w4 ⟨rfl, rfl⟩))
            go_roundw
            case rel =>
              have hsz := Hb.out.size
              exact ⟨j + 1, coverF acc lj, by omega, by go_num, rfl, Hr.out, Hb.out.trans ((((Below.refl wr.heap.size wr).alloc (Nat.le_refl _) _).trans (hb3.mono (by simp))).mono hsz)⟩
            case measure => simp [intOf]; omega
          · have hje : j = kids.length := by omega
            rw [hje, List.drop_length] at hr
            have Hr : Hid (acc = coverAll 0 kids) := Lib.hid (by rw [← hr]; unfold coverAll; rfl)
            have Hb := Lib.hid hb
            clear hr hje hb
            go_wp2
            go_ret
            exact ⟨ret_int (by rw [HF.out, ← Hr.out]), Hb.out⟩
      · rw [if_pos (Or.inr hl)] at hF
        have HF := Lib.hid hF
        subst hk
        have hl' : (l != 0) = true := by simpa using hl
        clear hF h10 h9 ih h1 h2 h3 h4 h5 h6
        go_enter Tryz.func9, Tryz.ntmps9
        go_wp2
        go_ret
        exact ⟨ret_int HF.out.symm, (Below.refl _ _).alloc (Nat.le_refl _) _⟩
    · rw [if_pos (Or.inl hk)] at hF
      have HF := Lib.hid hF
      have hk' : (k != 7) = true := by simpa using hk
      clear hF h10 h9 ih h1 h2 h3 h4 h5 h6
      go_enter Tryz.func9, Tryz.ntmps9
      go_wp2
      go_ret
      exact ⟨ret_int HF.out.symm, (Below.refl _ _).alloc (Nat.le_refl _) _⟩
end Go.Proofs.YtfbgnonnbcejkaaGreatDoor
namespace Go.Proofs.YtfbgnonnbcejkaaGreatDoor
open Go.RowKit

mutual
def gLayF (most : Int) : Geo → Bool
  | .mk k l _ _ _ _ kids => gLayAll most kids && (decide (l ≤ most) && (decide (1 ≤ l) || (decide (k = 7) && decide (0 ≤ l))))
def gLayAll (most : Int) : List Geo → Bool
  | [] => true
  | g :: r => gLayF most g && gLayAll most r
end
theorem gLayAll_drop (most : Int) (kids : List Geo) (k : Nat) (g : Geo) (h : kids[k]? = some g) : gLayAll most (kids.drop k) = (gLayF most g && gLayAll most (kids.drop (k + 1))) := by
  obtain ⟨hk, he⟩ := List.getElem?_eq_some_iff.1 h
  rw [List.drop_eq_getElem_cons hk, he]
  simp only [gLayAll]

set_option maxHeartbeats 1600000 in
theorem gLay_c : ∀ (n : Nat) (g : Geo), SizeOf.sizeOf g ≤ n → ∀ (K : Nat) (most : Int) (w : World) (v : Value), GeoAt K w v g → K ≤ w.heap.size →
    Calls Tryz.prog 6 #[v, .int .i64 most] w fun e w' => e = .returned (.bool (gLayF most g)) ∧ Below w.heap.size w w' := by
  intro n
  induction n with
  | zero => intro g hg; cases g; simp at hg
  | succ n ih =>
    intro g hgn K most w v hg hK
    obtain ⟨vs, rfl, hv⟩ := hg
    cases g with
    | mk k l s f e ee kids =>
    obtain ⟨vf, ve, vee, vk, rfl, h1, h2, h3, h4, h5, h6, ao, c, rfl, ⟨h8, hkl⟩, b, o, h9, h10⟩ := hv
    have hF : gLayF most (.mk k l s f e ee kids) = (gLayAll most kids && (decide (l ≤ most) && (decide (1 ≤ l) || (decide (k = 7) && decide (0 ≤ l))))) := by rw [gLayF]
    have HF := Lib.hid hF
    have Hg := Lib.hid h10
    have H9 := Lib.hid h9
    have Hih := Lib.hid ih
    clear hF h10 h9 ih h1 h2 h3 h4 h5 h6
    generalize gLayF most (.mk k l s f e ee kids) = R at *
    go_enter Tryz.func6, Tryz.ntmps6
    go_wp2
    have c1 : (w.alloc (.cells #[.int .i64 k, .int .i64 l, .int .i64 s, vf, ve, vee, .slice ao kids.length c] 27)).cell? ⟨w.heap.size, 1, none⟩ = some (.int .i64 l) := by rw [World.cell?_alloc_new]; rfl
    have c0 : (w.alloc (.cells #[.int .i64 k, .int .i64 l, .int .i64 s, vf, ve, vee, .slice ao kids.length c] 27)).cell? ⟨w.heap.size, 0, none⟩ = some (.int .i64 k) := by rw [World.cell?_alloc_new]; rfl
    have hbw : Below w.heap.size w (w.alloc (.cells #[.int .i64 k, .int .i64 l, .int .i64 s, vf, ve, vee, .slice ao kids.length c] 27)) := (Below.refl _ _).alloc (Nat.le_refl _) _
    have hsz : (w.alloc (.cells #[.int .i64 k, .int .i64 l, .int .i64 s, vf, ve, vee, .slice ao kids.length c] 27)).heap.size = w.heap.size + 1 := World.size_alloc ..
    generalize w.alloc (.cells #[.int .i64 k, .int .i64 l, .int .i64 s, vf, ve, vee, .slice ao kids.length c] 27) = w1 at *
    have Hbw := Lib.hid hbw
    have Hsz := Lib.hid hsz
    have C0 := Lib.hid c0
    have C1 := Lib.hid c1
    clear hbw hsz c0 c1
    go_loopw [10] (fun i wr => ∃ (j : Nat), j ≤ kids.length ∧ i = .int .i64 j ∧ gLayAll most (kids.drop j) = gLayAll most kids ∧ Below (w.heap.size + 1) w1 wr) (fun i _ => kids.length - (intOf i).toNat)
    case atStart => exact ⟨0, Nat.zero_le _, rfl, rfl, Below.refl _ _⟩
    case round =>
      obtain ⟨j, hj, rfl, hr, hb⟩ := hrel
      have c1 : wr.cell? ⟨w.heap.size, 1, none⟩ = some (.int .i64 l) := (World.cell?_of_block (a := ⟨w.heap.size, 1, none⟩) (hb.block w.heap.size (by omega))).trans C1.out
      have c0' : wr.cell? ⟨w.heap.size, 0, none⟩ = some (.int .i64 k) := (World.cell?_of_block (a := ⟨w.heap.size, 0, none⟩) (hb.block w.heap.size (by omega))).trans C0.out
      have hws : w.heap.size + 1 ≤ wr.heap.size := by have := Hsz.out; have := hb.size; omega
      by_cases hjl : j < kids.length
      · obtain ⟨rfl, hbK⟩ := H9.out (by omega)
        have hget : kids[j]? = some kids[j] := List.getElem?_eq_getElem hjl
        rw [gLayAll_drop most kids j _ hget] at hr
        obtain ⟨us, hc, hu⟩ := GeosAt.get kids b o j _ (GeosAt.below ((Hbw.out.mono hK).trans (hb.mono (by omega))) kids b o hbK Hg.out) hget
        obtain ⟨q0, q1, q2, a3, a4, a5, a6, n3, n4, n5, n6, m3, m4, m5, m6, rfl⟩ := hu.seven
        obtain ⟨d0, d1, d2, d3, d4, d5, d6⟩ := seven_cells hc
        have hsz : SizeOf.sizeOf kids[j] ≤ n := by
          have h1 := List.sizeOf_lt_of_mem (List.getElem_mem hjl)
          simp at hgn
          omega
        have hC : Hid (∀ w', Below wr.heap.size wr w' → Calls Tryz.prog 6 #[.agg #[.int .i64 q0, .int .i64 q1, .int .i64 q2, .slice a3 n3 m3, .slice a4 n4 m4, .slice a5 n5 m5, .slice a6 n6 m6], .int .i64 most] w' fun e w'' => e = .returned (.bool (gLayF most kids[j])) ∧ Below w'.heap.size w' w'') :=
          Lib.hid fun w' hw' => Hih.out kids[j] hsz K most w' _ ⟨_, rfl, GeoVs.below (hw'.mono (by omega)) _ _ hu⟩ (by have := hw'.size; omega)
        have Hb := Lib.hid hb
        clear hb hc hu hget hsz c0' c1
        generalize gLayF most kids[j] = gj at *
        cases gj
        · have Hr : Hid (false = gLayAll most kids) := Lib.hid (by rw [← hr]; rfl)
          clear hr
          go_wp2_with (go_at_call 6; refine (hC.out _ (by first | exact (Below.refl _ _).alloc (Nat.le_refl _) _)).mono ?_; rintro e w3 ⟨rfl, hb3⟩)
          go_ret
          exact ⟨ret_bool (by rw [HF.out, ← Hr.out]; rfl), Hbw.out.trans ((Hb.out.mono (by omega)).trans ((((Below.refl wr.heap.size wr).alloc (Nat.le_refl _) _).trans (hb3.mono (by simp))).mono (by omega)))⟩
        · have Hr : Hid (gLayAll most (kids.drop (j + 1)) = gLayAll most kids) := Lib.hid (by rw [← hr]; simp)
          clear hr
          go_wp2_with (go_at_call 6; refine (hC.out _ (by first | exact (Below.refl _ _).alloc (Nat.le_refl _) _)).mono ?_; rintro e w3 ⟨rfl, hb3⟩)
          go_roundw
          case rel => exact ⟨j + 1, by omega, by go_num, Hr.out, Hb.out.trans ((((Below.refl wr.heap.size wr).alloc (Nat.le_refl _) _).trans (hb3.mono (by simp))).mono hws)⟩
          case measure => simp [intOf]; omega
      · have hje : j = kids.length := by omega
        rw [hje, List.drop_length] at hr
        have Hr : Hid (gLayAll most kids = true) := Lib.hid (by rw [← hr]; unfold gLayAll; rfl)
        have Hb := Lib.hid hb
        clear hr hje hb
        have HF2 : Hid (R = (decide (l ≤ most) && (decide (1 ≤ l) || (decide (k = 7) && decide (0 ≤ l))))) := Lib.hid (by rw [HF.out, Hr.out, Bool.true_and])
        have hfin : Below w.heap.size w wr := Hbw.out.trans (Hb.out.mono (by omega))
        have Hfin := Lib.hid hfin
        clear hfin Hb
        by_cases e1 : l ≤ most
        · by_cases e2 : 1 ≤ l
          · have hR : Hid (R = true) := Lib.hid (by rw [HF2.out, decide_eq_true e1, decide_eq_true e2]; rfl)
            go_wp2
            go_ret
            exact ⟨ret_bool hR.out.symm, Hfin.out⟩
          · by_cases e3 : k = 7
            · by_cases e4 : 0 ≤ l
              · have hR : Hid (R = true) := Lib.hid (by rw [HF2.out, decide_eq_true e1, decide_eq_false e2, decide_eq_true e3, decide_eq_true e4]; rfl)
                have e3' : (k == 7) = true := by simpa using e3
                go_wp2
                go_ret
                exact ⟨ret_bool hR.out.symm, Hfin.out⟩
              · have hR : Hid (R = false) := Lib.hid (by rw [HF2.out, decide_eq_true e1, decide_eq_false e2, decide_eq_true e3, decide_eq_false e4]; rfl)
                have e3' : (k == 7) = true := by simpa using e3
                go_wp2
                go_ret
                exact ⟨ret_bool hR.out.symm, Hfin.out⟩
            · have hR : Hid (R = false) := Lib.hid (by rw [HF2.out, decide_eq_true e1, decide_eq_false e2, decide_eq_false e3]; rfl)
              have e3' : (k == 7) = false := by simpa using e3
              go_wp2
              go_ret
              exact ⟨ret_bool hR.out.symm, Hfin.out⟩
        · have hR : Hid (R = false) := Lib.hid (by rw [HF2.out, decide_eq_false e1]; rfl)
          go_wp2
          go_ret
          exact ⟨ret_bool hR.out.symm, Hfin.out⟩
end Go.Proofs.YtfbgnonnbcejkaaGreatDoor
namespace Go.Proofs.YtfbgnonnbcejkaaGreatDoor
open Go.RowKit

def endssW : List (List Int) → Nat
  | [] => 0
  | l :: r => 1 + l.length + endssW r
mutual
/-- How many parts, ends and numbers a geometry has. -/
def geoW : Geo → Nat
  | .mk _ _ _ f e ee kids => 1 + f.length + e.length + endssW ee + geosW kids
def geosW : List Geo → Nat
  | [] => 0
  | g :: r => geoW g + geosW r
end
mutual
def weightF (most : Int) : Geo → Int
  | .mk _ _ _ f e ee kids => weightAll most kids (1 + f.length + e.length + endssW ee)
def weightAll (most : Int) : List Geo → Int → Int
  | [], acc => acc
  | g :: r, acc => if most < acc then acc else weightAll most r (acc + weightF (most - acc) g)
end
mutual
/-- It counts no more than there is; where it is not above most, all. -/
theorem weightF_facts : ∀ (g : Geo) (most : Int), 1 ≤ weightF most g ∧ weightF most g ≤ geoW g ∧ (weightF most g ≤ most → weightF most g = geoW g)
  | .mk k l s f e ee kids, most => by
    have := weightAll_facts kids most (1 + f.length + e.length + endssW ee)
    unfold weightF geoW
    omega
theorem weightAll_facts : ∀ (l : List Geo) (most acc : Int), acc ≤ weightAll most l acc ∧ weightAll most l acc ≤ acc + geosW l ∧ (weightAll most l acc ≤ most → weightAll most l acc = acc + geosW l)
  | [], most, acc => by unfold weightAll geosW; omega
  | g :: r, most, acc => by
    unfold weightAll geosW
    split
    · omega
    · have h1 := weightF_facts g (most - acc)
      have h2 := weightAll_facts r most (acc + weightF (most - acc) g)
      omega
end
theorem geosW_get : ∀ (l : List Geo) (j : Nat) (g : Geo), l[j]? = some g → geosW l = geosW (l.take j) + geoW g + geosW (l.drop (j + 1))
  | [], _, _, h => by simp at h
  | a :: r, 0, g, h => by
    simp at h
    subst h
    simp [geosW]
  | a :: r, j + 1, g, h => by
    have := geosW_get r j g (by simpa using h)
    simp [geosW]
    omega
theorem endssW_get : ∀ (l : List (List Int)) (j : Nat), j < l.length → endssW (l.drop j) = 1 + (l.getD j []).length + endssW (l.drop (j + 1))
  | [], _, h => by simp at h
  | a :: r, 0, _ => by simp [endssW]
  | a :: r, j + 1, h => by
    have := endssW_get r j (by simpa using h)
    simpa using this
theorem weightAll_drop (most : Int) (kids : List Geo) (k : Nat) (acc : Int) (g : Geo) (h : kids[k]? = some g) : weightAll most (kids.drop k) acc = if most < acc then acc else weightAll most (kids.drop (k + 1)) (acc + weightF (most - acc) g) := by
  obtain ⟨hk, he⟩ := List.getElem?_eq_some_iff.1 h
  rw [List.drop_eq_getElem_cons hk, he]
  simp only [weightAll]
end Go.Proofs.YtfbgnonnbcejkaaGreatDoor
namespace Go.Proofs.YtfbgnonnbcejkaaGreatDoor
open Go.RowKit

theorem endssW_drop_le : ∀ (l : List (List Int)) (j : Nat), endssW (l.drop j) ≤ endssW l
  | [], j => by simp
  | a :: r, 0 => by simp
  | a :: r, j + 1 => by
    have := endssW_drop_le r j
    simp [endssW]
    omega

set_option maxHeartbeats 3200000 in
theorem weight_c : ∀ (n : Nat) (g : Geo), SizeOf.sizeOf g ≤ n → ∀ (K : Nat) (most : Int) (w : World) (v : Value), GeoAt K w v g → K ≤ w.heap.size → geoW g ≤ 1099511627776 → 0 ≤ most → most ≤ 1000000 →
    Calls Tryz.prog 21 #[v, .int .i64 most] w fun e w' => e = .returned (.int .i64 (weightF most g)) ∧ Below w.heap.size w w' := by
  intro n
  induction n with
  | zero => intro g hg; cases g; simp at hg
  | succ n ih =>
    intro g hgn K most w v hg hK hW hm0 hm1
    obtain ⟨vs, rfl, hv⟩ := hg
    cases g with
    | mk k l s f e ee kids =>
    obtain ⟨vf, ve, vee, vk, rfl, h1, h2, h3, ⟨a3, c3, rfl, ⟨hc3, hl3⟩, _⟩, ⟨a4, c4, rfl, ⟨hc4, hl4⟩, _⟩, ⟨a5, c5, rfl, ⟨hc5, hl5⟩, hx5⟩, ao, c, rfl, ⟨h8, hkl⟩, b, o, h9, h10⟩ := hv
    have hF : weightF most (.mk k l s f e ee kids) = weightAll most kids (1 + f.length + e.length + endssW ee) := by rw [weightF]
    have hWu : geoW (.mk k l s f e ee kids) = 1 + f.length + e.length + endssW ee + geosW kids := by rw [geoW]
    have HF := Lib.hid hF
    have Hg := Lib.hid h10
    have H9 := Lib.hid h9
    have Hih := Lib.hid ih
    have Hx5 := Lib.hid hx5
    rw [hWu] at hW
    clear hF h10 h9 ih h1 h2 h3 hx5 hWu
    generalize weightF most (.mk k l s f e ee kids) = R at *
    generalize f.length = nf at *
    generalize e.length = ne at *
    go_enter Tryz.func21, Tryz.ntmps21
    go_wp2
    have c6 : (w.alloc (.cells #[.int .i64 k, .int .i64 l, .int .i64 s, .slice a3 nf c3, .slice a4 ne c4, .slice a5 ee.length c5, .slice ao kids.length c] 27)).cell? ⟨w.heap.size, 6, none⟩ = some (.slice ao kids.length c) := by rw [World.cell?_alloc_new]; rfl
    have hbw : Below w.heap.size w (w.alloc (.cells #[.int .i64 k, .int .i64 l, .int .i64 s, .slice a3 nf c3, .slice a4 ne c4, .slice a5 ee.length c5, .slice ao kids.length c] 27)) := (Below.refl _ _).alloc (Nat.le_refl _) _
    have hsz : (w.alloc (.cells #[.int .i64 k, .int .i64 l, .int .i64 s, .slice a3 nf c3, .slice a4 ne c4, .slice a5 ee.length c5, .slice ao kids.length c] 27)).heap.size = w.heap.size + 1 := World.size_alloc ..
    generalize w.alloc (.cells #[.int .i64 k, .int .i64 l, .int .i64 s, .slice a3 nf c3, .slice a4 ne c4, .slice a5 ee.length c5, .slice ao kids.length c] 27) = w1 at *
    have Hbw := Lib.hid hbw
    have Hsz := Lib.hid hsz
    have C6 := Lib.hid c6
    clear hbw hsz c6
    go_loopw [5, 21] (fun u i wr => wr = w1 ∧ ∃ (j : Nat) (a : Nat), j ≤ ee.length ∧ i = .int .i64 j ∧ u = .int .i64 a ∧ a + endssW (ee.drop j) = 1 + nf + ne + endssW ee) (fun _ i _ => ee.length - (intOf i).toNat)
    case atStart => exact ⟨rfl, 0, 1 + nf + ne, Nat.zero_le _, rfl, by go_num, by simp⟩
    case round =>
      obtain ⟨rfl, j, a, hj, rfl, rfl, hr⟩ := hrel
      by_cases hjl : j < ee.length
      · obtain ⟨b5, o5, rfl, hbK5, ha5⟩ := Hx5.out (by omega)
        obtain ⟨u, hcell, ao2, c2, rfl, ⟨hc2, hl2⟩, _⟩ := ha5 j hjl
        rw [endssW_get ee j hjl] at hr
        rw [Nat.mul_one] at hcell
        have hcell' := (World.cell?_of_block (a := ⟨b5, o5 + j, none⟩) (Hbw.out.block b5 (by omega))).trans hcell
        clear ha5 hcell
        generalize (ee.getD j []).length = q at *
        have hale : a ≤ 1099511627776 := by omega
        have Hr := Lib.hid hr
        clear hr
        go_wp2
        go_roundw
        case rel => exact ⟨trivial, j + 1, a + (1 + q), by omega, by go_num, by go_num, by have := Hr.out; omega⟩
        case measure => simp [intOf]; omega
      · have hje : j = ee.length := by omega
        rw [hje, List.drop_length] at hr
        have ha : Hid (a = 1 + nf + ne + endssW ee) := Lib.hid (by have e0 : endssW [] = 0 := rfl
                                                                   omega)
        have hale : a ≤ 1099511627776 := by have := ha.out; omega
        have haW : Hid (a + geosW kids ≤ 1099511627776) := Lib.hid (by have := ha.out; omega)
        clear hr hje
        have c6 := C6.out
        go_wp2
        have HF2 : Hid (R = weightAll most kids a) := Lib.hid (by rw [HF.out, ha.out]; congr 1)
        obtain ⟨w1, rfl⟩ : ∃ x, x = wr := ⟨_, rfl⟩
        go_loopw [5, 34] (fun u i wx => ∃ (j : Nat) (acc : Int), j ≤ kids.length ∧ i = .int .i64 j ∧ u = .int .i64 acc ∧ 0 ≤ acc ∧ acc + geosW (kids.drop j) ≤ 1099511627776 ∧ weightAll most (kids.drop j) acc = weightAll most kids a ∧ Below (w.heap.size + 1) w1 wx) (fun _ i _ => kids.length - (intOf i).toNat)
        case atStart => exact ⟨0, a, Nat.zero_le _, rfl, rfl, by omega, by have := haW.out; simp; omega, rfl, Below.refl _ _⟩
        case round =>
          clear hj hjl
          obtain ⟨j, acc, hj, rfl, rfl, ha0, ha1, hr, hb⟩ := hrel
          have hws : w.heap.size + 1 ≤ wr.heap.size := by have := Hsz.out; have := hb.size; omega
          have hfin : ∀ w3, Below wr.heap.size wr w3 → Below w.heap.size w w3 := fun w3 h3 => Hbw.out.trans ((hb.mono (by omega)).trans (h3.mono (by omega)))
          have Hfin := Lib.hid hfin
          clear hfin
          by_cases hjl : j < kids.length
          · obtain ⟨rfl, hbK⟩ := H9.out (by omega)
            have hget : kids[j]? = some kids[j] := List.getElem?_eq_getElem hjl
            rw [weightAll_drop most kids j acc _ hget] at hr
            have hgw : geosW (kids.drop j) = geoW kids[j] + geosW (kids.drop (j + 1)) := by rw [List.drop_eq_getElem_cons hjl]; rfl
            obtain ⟨us, hc, hu⟩ := GeosAt.get kids b o j _ (GeosAt.below ((Hbw.out.mono hK).trans (hb.mono (by omega))) kids b o hbK Hg.out) hget
            obtain ⟨q0, q1, q2, b3, b4, b5, b6, n3, n4, n5, n6, m3, m4, m5, m6, rfl⟩ := hu.seven
            obtain ⟨d0, d1, d2, d3, d4, d5, d6⟩ := seven_cells hc
            have hsz : SizeOf.sizeOf kids[j] ≤ n := by
              have h1 := List.sizeOf_lt_of_mem (List.getElem_mem hjl)
              simp at hgn
              omega
            by_cases hgt : most < acc
            · rw [if_pos hgt] at hr
              have Hr := Lib.hid hr
              clear hr hb hc hu hget hgw
              go_wp2
              go_ret
              exact ⟨ret_int (by rw [HF2.out, ← Hr.out]), Hfin.out _ ((Below.refl _ _).alloc (Nat.le_refl _) _)⟩
            · rw [if_neg hgt] at hr
              have hwf := weightF_facts kids[j] (most - acc)
              have hC : Hid (∀ w', Below wr.heap.size wr w' → Calls Tryz.prog 21 #[.agg #[.int .i64 q0, .int .i64 q1, .int .i64 q2, .slice b3 n3 m3, .slice b4 n4 m4, .slice b5 n5 m5, .slice b6 n6 m6], .int .i64 (most - acc)] w' fun e w'' => e = .returned (.int .i64 (weightF (most - acc) kids[j])) ∧ Below w'.heap.size w' w'') :=
                Lib.hid fun w' hw' => Hih.out kids[j] hsz K (most - acc) w' _ ⟨_, rfl, GeoVs.below (hw'.mono (by omega)) _ _ hu⟩ (by have := hw'.size; omega) (by omega) (by omega) (by omega)
              have Hb := Lib.hid hb
              have Hr := Lib.hid hr
              obtain ⟨f1, f2, _⟩ := hwf
              have ha2 : acc + geoW kids[j] + geosW (kids.drop (j + 1)) ≤ 1099511627776 := by omega
              clear hb hr hc hu hget hsz hgw ha1
              generalize weightF (most - acc) kids[j] = wj at *
              generalize geoW kids[j] = gj at *
              generalize hgr : geosW (kids.drop (j + 1)) = gr at *
              have Hgr := Lib.hid hgr
              clear hgr
              go_wp2_with (go_at_call 21; refine (hC.out _ (by first | exact (Below.refl _ _).alloc (Nat.le_refl _) _)).mono ?_; rintro e w3 ⟨rfl, hb3⟩)
              go_roundw
              case rel => exact ⟨j + 1, acc + wj, by omega, by go_num, by go_num, by omega, by rw [Hgr.out]; omega, Hr.out, Hb.out.trans ((((Below.refl wr.heap.size wr).alloc (Nat.le_refl _) _).trans (hb3.mono (by simp))).mono hws)⟩
              case measure => simp [intOf]; omega
          · have hje : j = kids.length := by omega
            rw [hje, List.drop_length] at hr
            have Hr : Hid (acc = weightAll most kids a) := Lib.hid (by rw [← hr]; unfold weightAll; rfl)
            clear hr hje hb
            go_wp2
            go_ret
            exact ⟨ret_int (by rw [HF2.out, ← Hr.out]), Hfin.out _ (Below.refl _ _)⟩
end Go.Proofs.YtfbgnonnbcejkaaGreatDoor
