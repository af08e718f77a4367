/- Lemmas on the way to the law FnWKTParts, without conditions beside those that each states: gGood, zzFits2, NumParts, xBehind. -/
import Derived.Test.YtfbgnonnbcejkaaGreatDoorY08
import Derived.Test.YtfbgnonnbcejkaaGreatDoorY10
import Derived.Test.YtfbgnonnbcejkaaGreatDoorY19
namespace Go.Proofs.YtfbgnonnbcejkaaGreatDoor
open Go.RowKit

set_option maxHeartbeats 3200000 in
theorem gGood_c (g : Geo) (K b o c : Nat) (vs : List Value) (w : World) (hc : CellsAt w b o vs) (hv : GeoVs K w vs g) (hb : b < w.heap.size) (hK : K ≤ w.heap.size) (hW : geoW g ≤ 1099511627776) :
    Calls Tryz.prog 5 #[.slice (some ⟨b, o, none⟩) 1 c] w fun e w' => e = .returned (.bool (smallF g && goodF g)) ∧ Below w.heap.size w w' := by
  have hS := Lib.hid (small_c g K b o c vs w hc hv hb hK hW)
  obtain ⟨q0, q1, q2, b3, b4, b5, b6, n3, n4, n5, n6, m3, m4, m5, m6, rfl⟩ := hv.seven
  have hC : Hid (∀ w', Below w.heap.size w w' → Calls Tryz.prog 14 #[.agg #[.int .i64 q0, .int .i64 q1, .int .i64 q2, .slice b3 n3 m3, .slice b4 n4 m4, .slice b5 n5 m5, .slice b6 n6 m6]] w' fun e w'' => e = .returned (.bool (goodF g)) ∧ Below w'.heap.size w' w'') :=
    Lib.hid fun w' hw' => good_c _ g (Nat.le_refl _) K w' _ ⟨_, rfl, GeoVs.below (hw'.mono hK) _ _ hv⟩ (Nat.le_trans hK hw'.size)
  have Hc := Lib.hid hc
  have Hb := Lib.hid hb
  clear hc hv hb
  generalize goodF g = gd at *
  generalize smallF g = sm at *
  go_enter Tryz.func5, Tryz.ntmps5
  cases sm
  · go_wp2_with (go_at_call 13; refine hS.out.mono ?_; rintro e w2 ⟨rfl, hb2⟩)
    go_ret
    exact ⟨rfl, hb2⟩
  · go_wp2_with (go_at_call 13; refine hS.out.mono ?_; rintro e w2 ⟨rfl, hb2⟩)
    have Hb2 := Lib.hid hb2
    clear hb2
    go_loopw [10] (fun i wr => (i = .int .i64 0 ∧ wr = w2) ∨ (i = .int .i64 1 ∧ gd = true ∧ Below w.heap.size w wr)) (fun i _ => 1 - (intOf i).toNat)
    case atStart => exact Or.inl ⟨rfl, rfl⟩
    case round =>
      rcases hrel with ⟨rfl, rfl⟩ | ⟨rfl, hR, hbw⟩
      · have hcr : CellsAt wr b o _ := fun j hj => keeps_below_cell Hb2.out Hb.out (Hc.out j hj)
        obtain ⟨d0, d1, d2, d3, d4, d5, d6⟩ := seven_cells hcr
        clear hcr
        have hsz := Hb2.out.size
        cases gd
        · go_wp2_with (go_at_call 14; refine (hC.out _ (by first | exact Hb2.out.alloc hsz _)).mono ?_; rintro e w3 ⟨rfl, hb3⟩)
          go_ret
          exact ⟨rfl, (Hb2.out.alloc hsz _).trans (hb3.mono (by first | omega | (simp; omega)))⟩
        · go_wp2_with (go_at_call 14; refine (hC.out _ (by first | exact Hb2.out.alloc hsz _)).mono ?_; rintro e w3 ⟨rfl, hb3⟩)
          go_roundw
          case rel => exact Or.inr ⟨rfl, trivial, (Hb2.out.alloc hsz _).trans (hb3.mono (by first | omega | (simp; omega)))⟩
          case measure => simp [intOf]
      · subst hR
        have Hbw := Lib.hid hbw
        clear hbw
        go_wp2
        go_ret
        exact ⟨rfl, Hbw.out⟩

theorem fits2_c (K : Nat) (w : World) (vs : List Value) (g : Geo) (hv : GeoVs K w vs g) (hK : K ≤ w.heap.size) :
    Calls Tryz.prog 4 #[.agg vs.toArray] w fun e w' => e = .returned (.bool true) ∧ Below w.heap.size w w' := by
  cases g with
  | mk k l s f e ee kids =>
  obtain ⟨vf, ve, vee, vk, rfl, h1, h2, h3, ⟨a3, c3, rfl, ⟨hc3, hl3⟩, _⟩, ⟨a4, c4, rfl, ⟨hc4, hl4⟩, _⟩, h6, ao, c, rfl, ⟨h8, hkl⟩, b, o, h9, h10⟩ := hv
  have hC := Lib.hid (fun w' (hw : Below w.heap.size w w') => fits3_c K vee ee w' (h6.below (hw.mono hK)))
  obtain ⟨a5, c5, rfl, ⟨hc5, hl5⟩, _⟩ := h6
  clear h9 h10 h1 h2 h3
  generalize f.length = nf at *
  generalize e.length = ne at *
  generalize ee.length = nee at *
  generalize kids.length = nk at *
  go_enter Tryz.func4, Tryz.ntmps4
  go_wp2_with (go_at_call 12; refine (hC.out _ (by first | exact (Below.refl _ _).alloc (Nat.le_refl _) _)).mono ?_; rintro e w3 ⟨rfl, rfl⟩)
  go_ret
  exact ⟨rfl, (Below.refl _ _).alloc (Nat.le_refl _) _⟩

def numPartsF : Geo → Nat
  | .mk k _ _ _ e ee kids => if k = 3 ∨ k = 4 ∨ k = 5 then e.length else if k = 6 then ee.length else kids.length
theorem numParts_c (K : Nat) (w : World) (vs : List Value) (g : Geo) (hv : GeoVs K w vs g) :
    Calls Tryz.prog 7 #[.agg vs.toArray] w fun e w' => e = .returned (.int .i64 (numPartsF g)) ∧ Below w.heap.size w w' := by
  cases g with
  | mk k l s f e ee kids =>
  obtain ⟨vf, ve, vee, vk, rfl, h1, h2, h3, ⟨a3, c3, rfl, ⟨hc3, hl3⟩, _⟩, ⟨a4, c4, rfl, ⟨hc4, hl4⟩, _⟩, ⟨a5, c5, rfl, ⟨hc5, hl5⟩, _⟩, ao, c, rfl, ⟨h8, hkl⟩, b, o, h9, h10⟩ := hv
  have HF : Hid (numPartsF (.mk k l s f e ee kids) = if k = 3 ∨ k = 4 ∨ k = 5 then e.length else if k = 6 then ee.length else kids.length) := Lib.hid rfl
  clear h9 h10 h1 h2 h3
  generalize numPartsF (.mk k l s f e ee kids) = R at *
  generalize f.length = nf at *
  generalize e.length = ne at *
  generalize ee.length = nee at *
  generalize kids.length = nk at *
  have hfin : ∀ (x : Nat), R = x → (Ending.returned (Value.int .i64 (x : Int)) = Ending.returned (Value.int .i64 (R : Int))) := fun x h => by rw [h]
  have Hfin := Lib.hid hfin
  clear hfin
  by_cases k3 : k = 3
  · have hR : Hid (R = ne) := Lib.hid (by rw [HF.out, if_pos (Or.inl k3)])
    subst k3
    go_enter Tryz.func7, Tryz.ntmps7
    go_wp2
    go_ret
    exact ⟨Hfin.out _ hR.out, (Below.refl _ _).alloc (Nat.le_refl _) _⟩
  · by_cases k4 : k = 4
    · have hR : Hid (R = ne) := Lib.hid (by rw [HF.out, if_pos (Or.inr (Or.inl k4))])
      subst k4
      go_enter Tryz.func7, Tryz.ntmps7
      go_wp2
      go_ret
      exact ⟨Hfin.out _ hR.out, (Below.refl _ _).alloc (Nat.le_refl _) _⟩
    · by_cases k5 : k = 5
      · have hR : Hid (R = ne) := Lib.hid (by rw [HF.out, if_pos (Or.inr (Or.inr k5))])
        subst k5
        go_enter Tryz.func7, Tryz.ntmps7
        go_wp2
        go_ret
        exact ⟨Hfin.out _ hR.out, (Below.refl _ _).alloc (Nat.le_refl _) _⟩
      · by_cases k6 : k = 6
        · have hR : Hid (R = nee) := Lib.hid (by rw [HF.out, if_neg (by omega), if_pos k6])
          subst k6
          go_enter Tryz.func7, Tryz.ntmps7
          go_wp2
          go_ret
          exact ⟨Hfin.out _ hR.out, (Below.refl _ _).alloc (Nat.le_refl _) _⟩
        · have hR : Hid (R = nk) := Lib.hid (by rw [HF.out, if_neg (by omega), if_neg k6])
          have b3 : (k == 3) = false := by simpa using k3
          have b4 : (k == 4) = false := by simpa using k4
          have b5 : (k == 5) = false := by simpa using k5
          have b6 : (k == 6) = false := by simpa using k6
          clear k3 k4 k5 k6
          go_enter Tryz.func7, Tryz.ntmps7
          go_wp2
          go_ret
          exact ⟨Hfin.out _ hR.out, (Below.refl _ _).alloc (Nat.le_refl _) _⟩

theorem extract_drop (l : List UInt8) (n : Nat) : (⟨l.toArray⟩ : ByteArray).extract n l.length = ⟨(l.drop n).toArray⟩ := by
  apply ByteArray.ext
  simp [ByteArray.data_extract]
  exact List.take_of_length_le (by rw [List.length_drop]; exact Nat.le_refl _)
set_option maxHeartbeats 1600000 in
theorem behind_c (l : List UInt8) (w : World) (hl : l.length ≤ 140737488355328) :
    Calls Tryz.prog 11 #[.string ⟨l.toArray⟩] w fun e w' => e = .returned (.string ⟨(behindF l).toArray⟩) ∧ w = w' := by
  have hsz : (⟨l.toArray⟩ : ByteArray).size = l.length := size_toArray l
  have Hg : Hid (∀ k (h : k < (⟨l.toArray⟩ : ByteArray).size), (⟨l.toArray⟩ : ByteArray)[k] = l.getD k 0) := Lib.hid (fun k h => get_toArray l k (by rw [size_toArray] at h; exact h) h)
  have Hx : Hid (∀ n, (⟨l.toArray⟩ : ByteArray).extract n l.length = ⟨(l.drop n).toArray⟩) := Lib.hid (extract_drop l)
  generalize (⟨l.toArray⟩ : ByteArray) = S at *
  go_enter Tryz.func11, Tryz.ntmps11
  go_wp2
  go_loopw [3] (fun i wr => w = wr ∧ ∃ k : Nat, k ≤ l.length ∧ i = .int .i64 k ∧ behindF (l.drop k) = behindF l) (fun i _ => l.length - (intOf i).toNat)
  case atStart => exact ⟨rfl, 0, Nat.zero_le _, rfl, rfl⟩
  case round =>
    obtain ⟨rfl, k, hk, rfl, hp⟩ := hrel
    by_cases hkl : k < l.length
    · have hgk := Hg.out k (by omega)
      have hks : k < S.size := by omega
      have hd : l.drop k = l.getD k 0 :: l.drop (k + 1) := by
        rw [List.drop_eq_getElem_cons hkl, List.getD_eq_getElem?_getD, List.getElem?_eq_getElem hkl]; rfl
      generalize l.getD k 0 = x at *
      by_cases he : x = 40
      · have hb : behindF l = l.drop k := by rw [← hp, hd, behindF, if_pos he]
        have hne : (((x.toNat : Nat) : Int) == 40) = true := by rw [he]; rfl
        have Hb := Lib.hid hb
        clear hp hd hb he
        go_wp2
        go_ret
        refine ⟨?_, rfl⟩
        rw [Hb.out, ← Hx.out]
        rfl
      · have hb : behindF (l.drop (k + 1)) = behindF l := by rw [← hp, hd, behindF, if_neg he]
        have hne : (((x.toNat : Nat) : Int) == 40) = false := by
          rw [beq_eq_false_iff_ne]; intro e; exact he (UInt8.toNat_inj.1 (by simp; omega))
        have Hb := Lib.hid hb
        clear hp hd hb he
        go_wp2
        go_roundw
        case rel => exact ⟨trivial, k + 1, by omega, by go_num, Hb.out⟩
        case measure => simp [intOf]; omega
    · have hke : k = l.length := by omega
      rw [hke, List.drop_length] at hp
      have Hp := Lib.hid hp
      clear hp hke
      go_wp2
      go_ret
      exact ⟨by rw [← Hp.out]; rfl, rfl⟩
end Go.Proofs.YtfbgnonnbcejkaaGreatDoor
