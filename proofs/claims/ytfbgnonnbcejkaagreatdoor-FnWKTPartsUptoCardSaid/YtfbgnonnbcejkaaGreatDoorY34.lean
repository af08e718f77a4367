/- Lemmas on the way to the law FnWKTParts, without conditions beside those that each states: write: what is no collection | write: what is no collection. -/
import Derived.Test.YtfbgnonnbcejkaaGreatDoorY09
import Derived.Test.YtfbgnonnbcejkaaGreatDoorY27
import Derived.Test.YtfbgnonnbcejkaaGreatDoorY10
namespace Go.Proofs.YtfbgnonnbcejkaaGreatDoor
open Go.RowKit

set_option maxHeartbeats 6400000 in
set_option maxRecDepth 100000 in
theorem write5e_c (B en b bo : Nat) (prec : Int) (t : List UInt8) (la : Int) (f : List Nat) (es : List Int) (w : World) (c : Ctx B en prec w) (h : Sb B b t w) (ho : LeafAt (· < B) w bo 5 la f es []) (hbo : bo < B) (hl0 : 1 ≤ la) (hl1 : la ≤ 4) (hne : (es = [])) 
    (hlen : t.length + (kwF 5 ++ (laF la ++ leafF (numF prec) 5 la f es [])).length ≤ 140737488355000) :
    Calls Tryz.prog 50 #[.pointer (some ⟨en, 0, none⟩), .pointer (some ⟨b, 0, none⟩), .iface 78 (.pointer (some ⟨bo, 0, none⟩))] w fun e w' => e = .returned .nilIface ∧ (Sb B b (t ++ (kwF 5 ++ (laF la ++ leafF (numF prec) 5 la f es []))) w' ∧ Below B w w') := by
  have ho' := Lib.hid ho
  obtain ⟨h0, h1, _, _, _⟩ := ho
  have HC := Lib.hid (geom0Layout_c bo la w h0)
  have HM := Lib.hid cL5
  have Hlf : leafF (numF prec) 5 la f es [] = EMP := by rw [leafF, if_neg (by decide), if_neg (by decide), if_neg (by decide), if_neg (by decide), if_pos rfl, if_pos hne]
  have hst0 : 2 ≤ strideF la ∧ strideF la ≤ 4 := by unfold strideF; repeat' split <;> omega
  rw [Hlf] at hlen ⊢
  have hkl : kwF 5 ++ (laF la ++ (EMP)) = (kwF 5 ++ laF la) ++ (EMP) := (List.append_assoc _ _ _).symm
  rw [hkl] at hlen ⊢
  obtain ⟨hd, hhd⟩ : ∃ x, x = kwF 5 ++ laF la := ⟨_, rfl⟩
  rw [← hhd] at hlen ⊢
  have Hhd := Lib.hid hhd
  clear hhd
  have hlen1 : Hid (t.length + hd.length ≤ 140737488355000) := Lib.hid (by rw [List.length_append] at hlen; omega)
  have hlen2 : Hid ((t ++ hd).length + (EMP).length ≤ 140737488355000) := Lib.hid (by rw [List.length_append] at hlen ⊢; omega)
  have hkl2 : t ++ (hd ++ (EMP)) = (t ++ hd) ++ (EMP) := (List.append_assoc _ _ _).symm
  rw [hkl2]
  have Hne := Lib.hid hne
  have Hst0 := Lib.hid hst0
  skip
  have HCtx := Lib.hid c
  clear Hlf hkl hlen hkl2 c hne hst0
  have a59 := ta_78_59
  have a62 := ta_78_62
  have a65 := ta_78_65
  have a68 := ta_78_68
  have a72 := ta_78_72
  have a78 := ta_78_78
  have a81 := ta_78_81
  have a85 := ta_78_85
  go_enter Tryz.func50, Tryz.ntmps50
  go_upto_region 27 with (refine wp_invoke0 rfl _ _ _ rfl _ _ rfl _ _ (HM.out _ _) _ HC.out ?_)
  go_upto_block 1 with fail
  go_cut [7] (fun s7 wx => wx = w ∧ s7 = .string ⟨hd.toArray⟩)
  case first =>
    have : la = 1 ∨ la = 2 ∨ la = 3 ∨ la = 4 := by omega
    rcases this with rfl | rfl | rfl | rfl
    all_goals
      go_wp2_with fail
      go_meet
      case rel => exact ⟨rfl, by rw [Hhd.out]; rfl⟩
  case rest =>
    obtain ⟨rfl, rfl⟩ := hcut
    have hW := Lib.hid (writeString_c B b t hd wc h (by have := hlen1.out; omega) HCtx.out.size)
    go_wp2_with (go_at_call 57; refine hW.out.mono ?_)
    try simp only [and_imp]
    rintro e w2 rfl hs2 hb2
    have hcx := HCtx.out.below hb2
    obtain ⟨p0, p1, ⟨vf, p2, p3⟩, p4, p5⟩ := ho'.out.keep hbo (keeps_of_below hb2)
    have hs2' := hs2
    have hsz2 := hcx.size
    have Hst := Lib.hid (fun w' => layStride_c la (by omega) w')
    obtain ⟨ve, q4, q5⟩ := p4 (by decide)
    have q5' := q5
    obtain ⟨ae, ce, rfl, _, _⟩ := q5'
    have HE := Lib.hid (numLines_c bo ae es.length ce w2 q4)
    have hlz : es.length = 0 := by rw [Hne.out]; rfl
    have hdz : (((es.length : Nat) : Int) == 0) = true := by rw [hlz]; rfl
    clear hlz
    have hE := Lib.hid (writeEmpty_c B b (.pointer (some ⟨en, 0, none⟩)) _ w2 hs2 (by have := hlen2.out; have e5 : EMP.length = 5 := rfl; omega) hsz2)
    have Hb2 := Lib.hid hb2
    clear hb2 hs2 hs2' p0 p1 p2 p3 p4 p5 hcx
    go_wp2_with (first | (go_at_call 67; refine HE.out.mono ?_; rintro e w3 ⟨rfl, rfl⟩) | (go_at_call 59; refine hE.out.mono ?_; rintro e w3 ⟨rfl, hs3, hb3⟩))
    go_ret
    exact ⟨rfl, hs3, Hb2.out.trans hb3⟩

set_option maxHeartbeats 6400000 in
set_option maxRecDepth 100000 in
theorem write5n_c (B en b bo : Nat) (prec : Int) (t : List UInt8) (la : Int) (f : List Nat) (es : List Int) (w : World) (c : Ctx B en prec w) (h : Sb B b t w) (ho : LeafAt (· < B) w bo 5 la f es []) (hbo : bo < B) (hl0 : 1 ≤ la) (hl1 : la ≤ 4) (hne : (es ≠ [])) (single : Bool) (hgood : Asc (strideF la) single 0 es f.length)
    (hlen : t.length + (kwF 5 ++ (laF la ++ leafF (numF prec) 5 la f es [])).length ≤ 140737488355000) :
    Calls Tryz.prog 50 #[.pointer (some ⟨en, 0, none⟩), .pointer (some ⟨b, 0, none⟩), .iface 78 (.pointer (some ⟨bo, 0, none⟩))] w fun e w' => e = .returned .nilIface ∧ (Sb B b (t ++ (kwF 5 ++ (laF la ++ leafF (numF prec) 5 la f es []))) w' ∧ Below B w w') := by
  have ho' := Lib.hid ho
  obtain ⟨h0, h1, _, _, _⟩ := ho
  have HC := Lib.hid (geom0Layout_c bo la w h0)
  have HM := Lib.hid cL5
  have Hlf : leafF (numF prec) 5 la f es [] = flat2F (numF prec) (strideF la).toNat f 0 es := by rw [leafF, if_neg (by decide), if_neg (by decide), if_neg (by decide), if_neg (by decide), if_pos rfl, if_neg hne]
  have hst0 : 2 ≤ strideF la ∧ strideF la ≤ 4 := by unfold strideF; repeat' split <;> omega
  rw [Hlf] at hlen ⊢
  have hkl : kwF 5 ++ (laF la ++ (flat2F (numF prec) (strideF la).toNat f 0 es)) = (kwF 5 ++ laF la) ++ (flat2F (numF prec) (strideF la).toNat f 0 es) := (List.append_assoc _ _ _).symm
  rw [hkl] at hlen ⊢
  obtain ⟨hd, hhd⟩ : ∃ x, x = kwF 5 ++ laF la := ⟨_, rfl⟩
  rw [← hhd] at hlen ⊢
  have Hhd := Lib.hid hhd
  clear hhd
  have hlen1 : Hid (t.length + hd.length ≤ 140737488355000) := Lib.hid (by rw [List.length_append] at hlen; omega)
  have hlen2 : Hid ((t ++ hd).length + (flat2F (numF prec) (strideF la).toNat f 0 es).length ≤ 140737488355000) := Lib.hid (by rw [List.length_append] at hlen ⊢; omega)
  have hkl2 : t ++ (hd ++ (flat2F (numF prec) (strideF la).toNat f 0 es)) = (t ++ hd) ++ (flat2F (numF prec) (strideF la).toNat f 0 es) := (List.append_assoc _ _ _).symm
  rw [hkl2]
  have Hne := Lib.hid hne
  have Hst0 := Lib.hid hst0
  have Hgood := Lib.hid hgood
  have HCtx := Lib.hid c
  clear Hlf hkl hlen hkl2 c hne hst0 hgood
  have a59 := ta_78_59
  have a62 := ta_78_62
  have a65 := ta_78_65
  have a68 := ta_78_68
  have a72 := ta_78_72
  have a78 := ta_78_78
  have a81 := ta_78_81
  have a85 := ta_78_85
  go_enter Tryz.func50, Tryz.ntmps50
  go_upto_region 27 with (refine wp_invoke0 rfl _ _ _ rfl _ _ rfl _ _ (HM.out _ _) _ HC.out ?_)
  go_upto_block 1 with fail
  go_cut [7] (fun s7 wx => wx = w ∧ s7 = .string ⟨hd.toArray⟩)
  case first =>
    have : la = 1 ∨ la = 2 ∨ la = 3 ∨ la = 4 := by omega
    rcases this with rfl | rfl | rfl | rfl
    all_goals
      go_wp2_with fail
      go_meet
      case rel => exact ⟨rfl, by rw [Hhd.out]; rfl⟩
  case rest =>
    obtain ⟨rfl, rfl⟩ := hcut
    have hW := Lib.hid (writeString_c B b t hd wc h (by have := hlen1.out; omega) HCtx.out.size)
    go_wp2_with (go_at_call 57; refine hW.out.mono ?_)
    try simp only [and_imp]
    rintro e w2 rfl hs2 hb2
    have hcx := HCtx.out.below hb2
    obtain ⟨p0, p1, ⟨vf, p2, p3⟩, p4, p5⟩ := ho'.out.keep hbo (keeps_of_below hb2)
    have hs2' := hs2
    have hsz2 := hcx.size
    have Hst := Lib.hid (fun w' => layStride_c la (by omega) w')
    obtain ⟨ve, q4, q5⟩ := p4 (by decide)
    have q5' := q5
    obtain ⟨ae, ce, rfl, _, _⟩ := q5'
    have HE := Lib.hid (numLines_c bo ae es.length ce w2 q4)
    have hdz : (((es.length : Nat) : Int) == 0) = false := by rw [beq_eq_false_iff_ne]; exact fun h => Hne.out (List.length_eq_zero_iff.1 (by omega))
    have HF := Lib.hid (fun w' (hw : Below B w2 w') => flatCoords_c bo (vf) w' ((keeps_of_below hw).cell hbo p2))
    have HEn := Lib.hid (fun w' (hw : Below B w2 w') => ends_c bo (.slice ae es.length ce) w' ((keeps_of_below hw).cell hbo q4))
    obtain ⟨st, hst⟩ : ∃ st : Nat, strideF la = st := ⟨(strideF la).toNat, by have := Hst0.out; omega⟩
    have hst' : (strideF la).toNat = st := by omega
    have hstr := Hst0.out
    have Hsn := Lib.hid hst'
    have hgood := Hgood.out
    (try simp only [hst'] at hgood)
    (try rw [hst] at hgood)
    (try simp only [hst'] at hlen2)
    rw [hst] at Hst
    have hX := Lib.hid (fun w' (hw : Below B w2 w') (hs : Sb B b (t ++ hd) w') => writeFlat2_c B en b prec _ _ f 0 f.length _ es st single w' (hcx.below hw) hs (p3.keep (keeps_of_below hw)) (q5.keep (keeps_of_below hw)) (by omega) (by omega) hgood (Nat.le_refl _) hlen2.out)
    have Hs2 := Lib.hid hs2
    have Hb2 := Lib.hid hb2
    have Hp := Lib.hid p3
    clear hb2 hs2 hs2' p0 p1 p2 p3 p4 p5 hcx hgood q4 q5
    go_wp2_with (first | (go_at_call 67; refine HE.out.mono ?_; rintro e w3 ⟨rfl, rfl⟩) | (go_at_call 61; refine (HF.out _ (by first | exact Below.refl _ _ | exact below_drewN (Below.refl _ _) _)).mono ?_; rintro e w3 ⟨rfl, rfl⟩) | (go_at_call 52; refine (Hst.out _).mono ?_; rintro e w3 ⟨rfl, rfl⟩) | (go_at_call 64; refine (HEn.out _ (by first | exact Below.refl _ _ | exact below_drewN (Below.refl _ _) _)).mono ?_; rintro e w3 ⟨rfl, rfl⟩) | (go_at_call 63; refine (hX.out _ (by first | exact Below.refl _ _ | exact below_drewN (Below.refl _ _) _) (by first | exact Hs2.out | exact Hs2.out.below (below_drewN (Below.refl _ _) _))).mono ?_; rintro e w4 ⟨rfl, hs4, hb4⟩))
    go_region_with (first | (go_at_call 67; refine HE.out.mono ?_; rintro e w3 ⟨rfl, rfl⟩) | (go_at_call 61; refine (HF.out _ (by first | exact Below.refl _ _ | exact below_drewN (Below.refl _ _) _)).mono ?_; rintro e w3 ⟨rfl, rfl⟩) | (go_at_call 52; refine (Hst.out _).mono ?_; rintro e w3 ⟨rfl, rfl⟩) | (go_at_call 64; refine (HEn.out _ (by first | exact Below.refl _ _ | exact below_drewN (Below.refl _ _) _)).mono ?_; rintro e w3 ⟨rfl, rfl⟩) | (go_at_call 63; refine (hX.out _ (by first | exact Below.refl _ _ | exact below_drewN (Below.refl _ _) _) (by first | exact Hs2.out | exact Hs2.out.below (below_drewN (Below.refl _ _) _))).mono ?_; rintro e w4 ⟨rfl, hs4, hb4⟩))
    all_goals
      go_wp2
      go_ret
      first | exact ⟨rfl, (by first | exact hs4 | (rw [Hsn.out]; exact hs4)), Hb2.out.trans hb4⟩ | exact ⟨rfl, (by first | exact hs4 | (rw [Hsn.out]; exact hs4)), Hb2.out.trans ((below_drewN (Below.refl _ _) _).trans hb4)⟩
end Go.Proofs.YtfbgnonnbcejkaaGreatDoor
namespace Go.Proofs.YtfbgnonnbcejkaaGreatDoor
open Go.RowKit

set_option maxHeartbeats 6400000 in
set_option maxRecDepth 100000 in
theorem write6e_c (B en b bo : Nat) (prec : Int) (t : List UInt8) (la : Int) (f : List Nat) (ee : List (List Int)) (w : World) (c : Ctx B en prec w) (h : Sb B b t w) (ho : LeafAt (· < B) w bo 6 la f [] ee) (hbo : bo < B) (hl0 : 1 ≤ la) (hl1 : la ≤ 4) (hne : (ee = [])) 
    (hlen : t.length + (kwF 6 ++ (laF la ++ leafF (numF prec) 6 la f [] ee)).length ≤ 140737488355000) :
    Calls Tryz.prog 50 #[.pointer (some ⟨en, 0, none⟩), .pointer (some ⟨b, 0, none⟩), .iface 81 (.pointer (some ⟨bo, 0, none⟩))] w fun e w' => e = .returned .nilIface ∧ (Sb B b (t ++ (kwF 6 ++ (laF la ++ leafF (numF prec) 6 la f [] ee))) w' ∧ Below B w w') := by
  have ho' := Lib.hid ho
  obtain ⟨h0, h1, _, _, _⟩ := ho
  have HC := Lib.hid (geom0Layout_c bo la w h0)
  have HM := Lib.hid cL6
  have Hlf : leafF (numF prec) 6 la f [] ee = EMP := by rw [leafF, if_neg (by decide), if_neg (by decide), if_neg (by decide), if_neg (by decide), if_neg (by decide), if_pos hne]
  have hst0 : 2 ≤ strideF la ∧ strideF la ≤ 4 := by unfold strideF; repeat' split <;> omega
  rw [Hlf] at hlen ⊢
  have hkl : kwF 6 ++ (laF la ++ (EMP)) = (kwF 6 ++ laF la) ++ (EMP) := (List.append_assoc _ _ _).symm
  rw [hkl] at hlen ⊢
  obtain ⟨hd, hhd⟩ : ∃ x, x = kwF 6 ++ laF la := ⟨_, rfl⟩
  rw [← hhd] at hlen ⊢
  have Hhd := Lib.hid hhd
  clear hhd
  have hlen1 : Hid (t.length + hd.length ≤ 140737488355000) := Lib.hid (by rw [List.length_append] at hlen; omega)
  have hlen2 : Hid ((t ++ hd).length + (EMP).length ≤ 140737488355000) := Lib.hid (by rw [List.length_append] at hlen ⊢; omega)
  have hkl2 : t ++ (hd ++ (EMP)) = (t ++ hd) ++ (EMP) := (List.append_assoc _ _ _).symm
  rw [hkl2]
  have Hne := Lib.hid hne
  have Hst0 := Lib.hid hst0
  skip
  have HCtx := Lib.hid c
  clear Hlf hkl hlen hkl2 c hne hst0
  have a59 := ta_81_59
  have a62 := ta_81_62
  have a65 := ta_81_65
  have a68 := ta_81_68
  have a72 := ta_81_72
  have a78 := ta_81_78
  have a81 := ta_81_81
  have a85 := ta_81_85
  go_enter Tryz.func50, Tryz.ntmps50
  go_upto_region 27 with (refine wp_invoke0 rfl _ _ _ rfl _ _ rfl _ _ (HM.out _ _) _ HC.out ?_)
  go_upto_block 1 with fail
  go_cut [7] (fun s7 wx => wx = w ∧ s7 = .string ⟨hd.toArray⟩)
  case first =>
    have : la = 1 ∨ la = 2 ∨ la = 3 ∨ la = 4 := by omega
    rcases this with rfl | rfl | rfl | rfl
    all_goals
      go_wp2_with fail
      go_meet
      case rel => exact ⟨rfl, by rw [Hhd.out]; rfl⟩
  case rest =>
    obtain ⟨rfl, rfl⟩ := hcut
    have hW := Lib.hid (writeString_c B b t hd wc h (by have := hlen1.out; omega) HCtx.out.size)
    go_wp2_with (go_at_call 57; refine hW.out.mono ?_)
    try simp only [and_imp]
    rintro e w2 rfl hs2 hb2
    have hcx := HCtx.out.below hb2
    obtain ⟨p0, p1, ⟨vf, p2, p3⟩, p4, p5⟩ := ho'.out.keep hbo (keeps_of_below hb2)
    have hs2' := hs2
    have hsz2 := hcx.size
    have Hst := Lib.hid (fun w' => layStride_c la (by omega) w')
    obtain ⟨ve, q4, q5⟩ := p5 rfl
    have q5' := q5
    obtain ⟨ae, ce, rfl, _, _⟩ := q5'
    have HE := Lib.hid (numPolys_c bo ae ee.length ce w2 q4)
    have hlz : ee.length = 0 := by rw [Hne.out]; rfl
    have hdz : (((ee.length : Nat) : Int) == 0) = true := by rw [hlz]; rfl
    clear hlz
    have hE := Lib.hid (writeEmpty_c B b (.pointer (some ⟨en, 0, none⟩)) _ w2 hs2 (by have := hlen2.out; have e5 : EMP.length = 5 := rfl; omega) hsz2)
    have Hb2 := Lib.hid hb2
    clear hb2 hs2 hs2' p0 p1 p2 p3 p4 p5 hcx
    go_wp2_with (first | (go_at_call 68; refine HE.out.mono ?_; rintro e w3 ⟨rfl, rfl⟩) | (go_at_call 59; refine hE.out.mono ?_; rintro e w3 ⟨rfl, hs3, hb3⟩))
    go_ret
    exact ⟨rfl, hs3, Hb2.out.trans hb3⟩

set_option maxHeartbeats 6400000 in
set_option maxRecDepth 100000 in
theorem write6n_c (B en b bo : Nat) (prec : Int) (t : List UInt8) (la : Int) (f : List Nat) (ee : List (List Int)) (w : World) (c : Ctx B en prec w) (h : Sb B b t w) (ho : LeafAt (· < B) w bo 6 la f [] ee) (hbo : bo < B) (hl0 : 1 ≤ la) (hl1 : la ≤ 4) (hne : (ee ≠ [])) (hgood : Ascs (strideF la) 0 ee f.length)
    (hlen : t.length + (kwF 6 ++ (laF la ++ leafF (numF prec) 6 la f [] ee)).length ≤ 140737488355000) :
    Calls Tryz.prog 50 #[.pointer (some ⟨en, 0, none⟩), .pointer (some ⟨b, 0, none⟩), .iface 81 (.pointer (some ⟨bo, 0, none⟩))] w fun e w' => e = .returned .nilIface ∧ (Sb B b (t ++ (kwF 6 ++ (laF la ++ leafF (numF prec) 6 la f [] ee))) w' ∧ Below B w w') := by
  have ho' := Lib.hid ho
  obtain ⟨h0, h1, _, _, _⟩ := ho
  have HC := Lib.hid (geom0Layout_c bo la w h0)
  have HM := Lib.hid cL6
  have Hlf : leafF (numF prec) 6 la f [] ee = 40 :: (seqF true (pieces3 (numF prec) (strideF la).toNat f 0 ee) ++ [41]) := by rw [leafF, if_neg (by decide), if_neg (by decide), if_neg (by decide), if_neg (by decide), if_neg (by decide), if_neg hne]
  have hst0 : 2 ≤ strideF la ∧ strideF la ≤ 4 := by unfold strideF; repeat' split <;> omega
  rw [Hlf] at hlen ⊢
  have hkl : kwF 6 ++ (laF la ++ (40 :: (seqF true (pieces3 (numF prec) (strideF la).toNat f 0 ee) ++ [41]))) = (kwF 6 ++ laF la) ++ (40 :: (seqF true (pieces3 (numF prec) (strideF la).toNat f 0 ee) ++ [41])) := (List.append_assoc _ _ _).symm
  rw [hkl] at hlen ⊢
  obtain ⟨hd, hhd⟩ : ∃ x, x = kwF 6 ++ laF la := ⟨_, rfl⟩
  rw [← hhd] at hlen ⊢
  have Hhd := Lib.hid hhd
  clear hhd
  have hlen1 : Hid (t.length + hd.length ≤ 140737488355000) := Lib.hid (by rw [List.length_append] at hlen; omega)
  have hlen2 : Hid ((t ++ hd).length + (40 :: (seqF true (pieces3 (numF prec) (strideF la).toNat f 0 ee) ++ [41])).length ≤ 140737488355000) := Lib.hid (by rw [List.length_append] at hlen ⊢; omega)
  have hkl2 : t ++ (hd ++ (40 :: (seqF true (pieces3 (numF prec) (strideF la).toNat f 0 ee) ++ [41]))) = (t ++ hd) ++ (40 :: (seqF true (pieces3 (numF prec) (strideF la).toNat f 0 ee) ++ [41])) := (List.append_assoc _ _ _).symm
  rw [hkl2]
  have Hne := Lib.hid hne
  have Hst0 := Lib.hid hst0
  have Hgood := Lib.hid hgood
  have HCtx := Lib.hid c
  clear Hlf hkl hlen hkl2 c hne hst0 hgood
  have a59 := ta_81_59
  have a62 := ta_81_62
  have a65 := ta_81_65
  have a68 := ta_81_68
  have a72 := ta_81_72
  have a78 := ta_81_78
  have a81 := ta_81_81
  have a85 := ta_81_85
  go_enter Tryz.func50, Tryz.ntmps50
  go_upto_region 27 with (refine wp_invoke0 rfl _ _ _ rfl _ _ rfl _ _ (HM.out _ _) _ HC.out ?_)
  go_upto_block 1 with fail
  go_cut [7] (fun s7 wx => wx = w ∧ s7 = .string ⟨hd.toArray⟩)
  case first =>
    have : la = 1 ∨ la = 2 ∨ la = 3 ∨ la = 4 := by omega
    rcases this with rfl | rfl | rfl | rfl
    all_goals
      go_wp2_with fail
      go_meet
      case rel => exact ⟨rfl, by rw [Hhd.out]; rfl⟩
  case rest =>
    obtain ⟨rfl, rfl⟩ := hcut
    have hW := Lib.hid (writeString_c B b t hd wc h (by have := hlen1.out; omega) HCtx.out.size)
    go_wp2_with (go_at_call 57; refine hW.out.mono ?_)
    try simp only [and_imp]
    rintro e w2 rfl hs2 hb2
    have hcx := HCtx.out.below hb2
    obtain ⟨p0, p1, ⟨vf, p2, p3⟩, p4, p5⟩ := ho'.out.keep hbo (keeps_of_below hb2)
    have hs2' := hs2
    have hsz2 := hcx.size
    have Hst := Lib.hid (fun w' => layStride_c la (by omega) w')
    obtain ⟨ve, q4, q5⟩ := p5 rfl
    have q5' := q5
    obtain ⟨ae, ce, rfl, _, _⟩ := q5'
    have HE := Lib.hid (numPolys_c bo ae ee.length ce w2 q4)
    have hdz : (((ee.length : Nat) : Int) == 0) = false := by rw [beq_eq_false_iff_ne]; exact fun h => Hne.out (List.length_eq_zero_iff.1 (by omega))
    have HF := Lib.hid (fun w' (hw : Below B w2 w') => flatCoords_c bo (vf) w' ((keeps_of_below hw).cell hbo p2))
    have HEn := Lib.hid (fun w' (hw : Below B w2 w') => endss_c bo (.slice ae ee.length ce) w' ((keeps_of_below hw).cell hbo q4))
    obtain ⟨st, hst⟩ : ∃ st : Nat, strideF la = st := ⟨(strideF la).toNat, by have := Hst0.out; omega⟩
    have hst' : (strideF la).toNat = st := by omega
    have hstr := Hst0.out
    have Hsn := Lib.hid hst'
    have hgood := Hgood.out
    (try simp only [hst'] at hgood)
    (try rw [hst] at hgood)
    (try simp only [hst'] at hlen2)
    rw [hst] at Hst
    have hX := Lib.hid (fun w' (hw : Below B w2 w') (hs : Sb B b (t ++ hd) w') => writeFlat3_c B en b prec _ _ f f.length _ ee st w' (hcx.below hw) hs (p3.keep (keeps_of_below hw)) (q5.keep (keeps_of_below hw)) (by omega) (by omega) hgood (Nat.le_refl _) hlen2.out)
    have Hs2 := Lib.hid hs2
    have Hb2 := Lib.hid hb2
    have Hp := Lib.hid p3
    clear hb2 hs2 hs2' p0 p1 p2 p3 p4 p5 hcx hgood q4 q5
    go_wp2_with (first | (go_at_call 68; refine HE.out.mono ?_; rintro e w3 ⟨rfl, rfl⟩) | (go_at_call 61; refine (HF.out _ (by first | exact Below.refl _ _ | exact below_drewN (Below.refl _ _) _)).mono ?_; rintro e w3 ⟨rfl, rfl⟩) | (go_at_call 52; refine (Hst.out _).mono ?_; rintro e w3 ⟨rfl, rfl⟩) | (go_at_call 70; refine (HEn.out _ (by first | exact Below.refl _ _ | exact below_drewN (Below.refl _ _) _)).mono ?_; rintro e w3 ⟨rfl, rfl⟩) | (go_at_call 69; refine (hX.out _ (by first | exact Below.refl _ _ | exact below_drewN (Below.refl _ _) _) (by first | exact Hs2.out | exact Hs2.out.below (below_drewN (Below.refl _ _) _))).mono ?_; rintro e w4 ⟨rfl, hs4, hb4⟩))
    go_region_with (first | (go_at_call 68; refine HE.out.mono ?_; rintro e w3 ⟨rfl, rfl⟩) | (go_at_call 61; refine (HF.out _ (by first | exact Below.refl _ _ | exact below_drewN (Below.refl _ _) _)).mono ?_; rintro e w3 ⟨rfl, rfl⟩) | (go_at_call 52; refine (Hst.out _).mono ?_; rintro e w3 ⟨rfl, rfl⟩) | (go_at_call 70; refine (HEn.out _ (by first | exact Below.refl _ _ | exact below_drewN (Below.refl _ _) _)).mono ?_; rintro e w3 ⟨rfl, rfl⟩) | (go_at_call 69; refine (hX.out _ (by first | exact Below.refl _ _ | exact below_drewN (Below.refl _ _) _) (by first | exact Hs2.out | exact Hs2.out.below (below_drewN (Below.refl _ _) _))).mono ?_; rintro e w4 ⟨rfl, hs4, hb4⟩))
    all_goals
      go_wp2
      go_ret
      first | exact ⟨rfl, (by first | exact hs4 | (rw [Hsn.out]; exact hs4)), Hb2.out.trans hb4⟩ | exact ⟨rfl, (by first | exact hs4 | (rw [Hsn.out]; exact hs4)), Hb2.out.trans ((below_drewN (Below.refl _ _) _).trans hb4)⟩
end Go.Proofs.YtfbgnonnbcejkaaGreatDoor
