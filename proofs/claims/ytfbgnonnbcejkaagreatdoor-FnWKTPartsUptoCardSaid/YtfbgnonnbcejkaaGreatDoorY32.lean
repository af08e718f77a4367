/- Lemmas on the way to the law FnWKTParts, without conditions beside those that each states: write: what is no collection | write: what is no collection | write: what is no collection. -/
import Derived.Test.YtfbgnonnbcejkaaGreatDoorY09
import Derived.Test.YtfbgnonnbcejkaaGreatDoorY27
import Derived.Test.YtfbgnonnbcejkaaGreatDoorY10
namespace Go.Proofs.YtfbgnonnbcejkaaGreatDoor
open Go.RowKit

set_option maxHeartbeats 6400000 in
set_option maxRecDepth 100000 in
theorem write1e_c (B en b bo : Nat) (prec : Int) (t : List UInt8) (la : Int) (f : List Nat) (w : World) (c : Ctx B en prec w) (h : Sb B b t w) (ho : LeafAt (· < B) w bo 1 la f [] []) (hbo : bo < B) (hl0 : 1 ≤ la) (hl1 : la ≤ 4) (hne : (f = [])) 
    (hlen : t.length + (kwF 1 ++ (laF la ++ leafF (numF prec) 1 la f [] [])).length ≤ 140737488355000) :
    Calls Tryz.prog 50 #[.pointer (some ⟨en, 0, none⟩), .pointer (some ⟨b, 0, none⟩), .iface 59 (.pointer (some ⟨bo, 0, none⟩))] w fun e w' => e = .returned .nilIface ∧ (Sb B b (t ++ (kwF 1 ++ (laF la ++ leafF (numF prec) 1 la f [] []))) w' ∧ Below B w w') := by
  have ho' := Lib.hid ho
  obtain ⟨h0, h1, _, _, _⟩ := ho
  have HC := Lib.hid (geom0Layout_c bo la w h0)
  have HM := Lib.hid cL1
  have Hlf : leafF (numF prec) 1 la f [] [] = EMP := by rw [leafF, if_pos rfl, if_pos hne]
  have hst0 : 2 ≤ strideF la ∧ strideF la ≤ 4 := by unfold strideF; repeat' split <;> omega
  rw [Hlf] at hlen ⊢
  have hkl : kwF 1 ++ (laF la ++ (EMP)) = (kwF 1 ++ laF la) ++ (EMP) := (List.append_assoc _ _ _).symm
  rw [hkl] at hlen ⊢
  obtain ⟨hd, hhd⟩ : ∃ x, x = kwF 1 ++ laF la := ⟨_, rfl⟩
  rw [← hhd] at hlen ⊢
  have Hhd := Lib.hid hhd
  clear hhd
  have hlen1 : Hid (t.length + hd.length ≤ 140737488355000) := Lib.hid (by rw [List.length_append] at hlen; omega)
  have hlen2 : Hid ((t ++ hd).length + (EMP).length ≤ 140737488355000) := Lib.hid (by rw [List.length_append] at hlen ⊢; omega)
  have hkl2 : t ++ (hd ++ (EMP)) = (t ++ hd) ++ (EMP) := (List.append_assoc _ _ _).symm
  rw [hkl2]
  have Hne := Lib.hid hne
  have Hst0 := Lib.hid hst0
  skip
  have HCtx := Lib.hid c
  clear Hlf hkl hlen hkl2 c hne hst0
  have a59 := ta_59_59
  have a62 := ta_59_62
  have a65 := ta_59_65
  have a68 := ta_59_68
  have a72 := ta_59_72
  have a78 := ta_59_78
  have a81 := ta_59_81
  have a85 := ta_59_85
  go_enter Tryz.func50, Tryz.ntmps50
  go_upto_region 27 with (refine wp_invoke0 rfl _ _ _ rfl _ _ rfl _ _ (HM.out _ _) _ HC.out ?_)
  go_upto_block 1 with fail
  go_cut [7] (fun s7 wx => wx = w ∧ s7 = .string ⟨hd.toArray⟩)
  case first =>
    have : la = 1 ∨ la = 2 ∨ la = 3 ∨ la = 4 := by omega
    rcases this with rfl | rfl | rfl | rfl
    all_goals
      go_wp2_with fail
      go_meet
      case rel => exact ⟨rfl, by rw [Hhd.out]; rfl⟩
  case rest =>
    obtain ⟨rfl, rfl⟩ := hcut
    have hW := Lib.hid (writeString_c B b t hd wc h (by have := hlen1.out; omega) HCtx.out.size)
    go_wp2_with (go_at_call 57; refine hW.out.mono ?_)
    try simp only [and_imp]
    rintro e w2 rfl hs2 hb2
    have hcx := HCtx.out.below hb2
    obtain ⟨p0, p1, ⟨vf, p2, p3⟩, p4, p5⟩ := ho'.out.keep hbo (keeps_of_below hb2)
    have hs2' := hs2
    have hsz2 := hcx.size
    have Hst := Lib.hid (fun w' => layStride_c la (by omega) w')
    have p3' := p3
    obtain ⟨af, cf, rfl, _, _⟩ := p3'
    have HE := Lib.hid (geom0Empty_c bo af f.length cf w2 p2)
    have hlz : f.length = 0 := by rw [Hne.out]; rfl
    have hdz : decide (f.length = 0) = true := decide_eq_true hlz
    clear hlz
    have hE := Lib.hid (writeEmpty_c B b (.pointer (some ⟨en, 0, none⟩)) _ w2 hs2 (by have := hlen2.out; have e5 : EMP.length = 5 := rfl; omega) hsz2)
    have Hb2 := Lib.hid hb2
    clear hb2 hs2 hs2' p0 p1 p2 p3 p4 p5 hcx
    go_wp2_with (first | (go_at_call 58; refine HE.out.mono ?_; rintro e w3 ⟨rfl, rfl⟩) | (go_at_call 59; refine hE.out.mono ?_; rintro e w3 ⟨rfl, hs3, hb3⟩))
    go_ret
    exact ⟨rfl, hs3, Hb2.out.trans hb3⟩

set_option maxHeartbeats 6400000 in
set_option maxRecDepth 100000 in
theorem write1n_c (B en b bo : Nat) (prec : Int) (t : List UInt8) (la : Int) (f : List Nat) (w : World) (c : Ctx B en prec w) (h : Sb B b t w) (ho : LeafAt (· < B) w bo 1 la f [] []) (hbo : bo < B) (hl0 : 1 ≤ la) (hl1 : la ≤ 4) (hne : (f ≠ [])) (hgood : f.length = (strideF la).toNat)
    (hlen : t.length + (kwF 1 ++ (laF la ++ leafF (numF prec) 1 la f [] [])).length ≤ 140737488355000) :
    Calls Tryz.prog 50 #[.pointer (some ⟨en, 0, none⟩), .pointer (some ⟨b, 0, none⟩), .iface 59 (.pointer (some ⟨bo, 0, none⟩))] w fun e w' => e = .returned .nilIface ∧ (Sb B b (t ++ (kwF 1 ++ (laF la ++ leafF (numF prec) 1 la f [] []))) w' ∧ Below B w w') := by
  have ho' := Lib.hid ho
  obtain ⟨h0, h1, _, _, _⟩ := ho
  have HC := Lib.hid (geom0Layout_c bo la w h0)
  have HM := Lib.hid cL1
  have Hlf : leafF (numF prec) 1 la f [] [] = 40 :: (coordF (numF prec) true f ++ [41]) := by rw [leafF, if_pos rfl, if_neg hne]
  have hst0 : 2 ≤ strideF la ∧ strideF la ≤ 4 := by unfold strideF; repeat' split <;> omega
  rw [Hlf] at hlen ⊢
  have hkl : kwF 1 ++ (laF la ++ (40 :: (coordF (numF prec) true f ++ [41]))) = (kwF 1 ++ laF la) ++ (40 :: (coordF (numF prec) true f ++ [41])) := (List.append_assoc _ _ _).symm
  rw [hkl] at hlen ⊢
  obtain ⟨hd, hhd⟩ : ∃ x, x = kwF 1 ++ laF la := ⟨_, rfl⟩
  rw [← hhd] at hlen ⊢
  have Hhd := Lib.hid hhd
  clear hhd
  have hlen1 : Hid (t.length + hd.length ≤ 140737488355000) := Lib.hid (by rw [List.length_append] at hlen; omega)
  have hlen2 : Hid ((t ++ hd).length + (40 :: (coordF (numF prec) true f ++ [41])).length ≤ 140737488355000) := Lib.hid (by rw [List.length_append] at hlen ⊢; omega)
  have hkl2 : t ++ (hd ++ (40 :: (coordF (numF prec) true f ++ [41]))) = (t ++ hd) ++ (40 :: (coordF (numF prec) true f ++ [41])) := (List.append_assoc _ _ _).symm
  rw [hkl2]
  have Hne := Lib.hid hne
  have Hst0 := Lib.hid hst0
  have Hgood := Lib.hid hgood
  have HCtx := Lib.hid c
  clear Hlf hkl hlen hkl2 c hne hst0 hgood
  have a59 := ta_59_59
  have a62 := ta_59_62
  have a65 := ta_59_65
  have a68 := ta_59_68
  have a72 := ta_59_72
  have a78 := ta_59_78
  have a81 := ta_59_81
  have a85 := ta_59_85
  go_enter Tryz.func50, Tryz.ntmps50
  go_upto_region 27 with (refine wp_invoke0 rfl _ _ _ rfl _ _ rfl _ _ (HM.out _ _) _ HC.out ?_)
  go_upto_block 1 with fail
  go_cut [7] (fun s7 wx => wx = w ∧ s7 = .string ⟨hd.toArray⟩)
  case first =>
    have : la = 1 ∨ la = 2 ∨ la = 3 ∨ la = 4 := by omega
    rcases this with rfl | rfl | rfl | rfl
    all_goals
      go_wp2_with fail
      go_meet
      case rel => exact ⟨rfl, by rw [Hhd.out]; rfl⟩
  case rest =>
    obtain ⟨rfl, rfl⟩ := hcut
    have hW := Lib.hid (writeString_c B b t hd wc h (by have := hlen1.out; omega) HCtx.out.size)
    go_wp2_with (go_at_call 57; refine hW.out.mono ?_)
    try simp only [and_imp]
    rintro e w2 rfl hs2 hb2
    have hcx := HCtx.out.below hb2
    obtain ⟨p0, p1, ⟨vf, p2, p3⟩, p4, p5⟩ := ho'.out.keep hbo (keeps_of_below hb2)
    have hs2' := hs2
    have hsz2 := hcx.size
    have Hst := Lib.hid (fun w' => layStride_c la (by omega) w')
    have p3' := p3
    obtain ⟨af, cf, rfl, _, _⟩ := p3'
    have HE := Lib.hid (geom0Empty_c bo af f.length cf w2 p2)
    have hdz : decide (f.length = 0) = false := decide_eq_false (fun h => Hne.out (List.length_eq_zero_iff.1 h))
    have HF := Lib.hid (fun w' (hw : Below B w2 w') => flatCoords_c bo (.slice af f.length cf) w' ((keeps_of_below hw).cell hbo p2))
    obtain ⟨st, hst⟩ : ∃ st : Nat, strideF la = st := ⟨(strideF la).toNat, by have := Hst0.out; omega⟩
    have hst' : (strideF la).toNat = st := by omega
    have hstr := Hst0.out
    have hgood := Hgood.out
    simp only [hst, Int.toNat_natCast] at *
    subst hgood
    have hX := Lib.hid (fun w' (hw : Below B w2 w') (hs : Sb B b (t ++ hd) w') => writeFlat0_c B en b prec _ _ f w' (hcx.below hw) hs (p3.keep (keeps_of_below hw)) (by omega) hlen2.out)
    have Hs2 := Lib.hid hs2
    have Hb2 := Lib.hid hb2
    have Hp := Lib.hid p3
    clear hb2 hs2 hs2' p0 p1 p2 p3 p4 p5 hcx
    go_wp2_with (first | (go_at_call 58; refine HE.out.mono ?_; rintro e w3 ⟨rfl, rfl⟩) | (go_at_call 61; refine (HF.out _ (by first | exact Below.refl _ _ | exact below_drewN (Below.refl _ _) _)).mono ?_; rintro e w3 ⟨rfl, rfl⟩) | (go_at_call 52; refine (Hst.out _).mono ?_; rintro e w3 ⟨rfl, rfl⟩) | (go_at_call 60; refine (hX.out _ (by first | exact Below.refl _ _ | exact below_drewN (Below.refl _ _) _) (by first | exact Hs2.out | exact Hs2.out.below (below_drewN (Below.refl _ _) _))).mono ?_; rintro e w4 ⟨rfl, hs4, hb4⟩))
    go_ret
    exact ⟨rfl, hs4, Hb2.out.trans hb4⟩
end Go.Proofs.YtfbgnonnbcejkaaGreatDoor
namespace Go.Proofs.YtfbgnonnbcejkaaGreatDoor
open Go.RowKit

set_option maxHeartbeats 6400000 in
set_option maxRecDepth 100000 in
theorem write2e_c (B en b bo : Nat) (prec : Int) (t : List UInt8) (la : Int) (f : List Nat) (w : World) (c : Ctx B en prec w) (h : Sb B b t w) (ho : LeafAt (· < B) w bo 2 la f [] []) (hbo : bo < B) (hl0 : 1 ≤ la) (hl1 : la ≤ 4) (hne : (f = [])) 
    (hlen : t.length + (kwF 2 ++ (laF la ++ leafF (numF prec) 2 la f [] [])).length ≤ 140737488355000) :
    Calls Tryz.prog 50 #[.pointer (some ⟨en, 0, none⟩), .pointer (some ⟨b, 0, none⟩), .iface 62 (.pointer (some ⟨bo, 0, none⟩))] w fun e w' => e = .returned .nilIface ∧ (Sb B b (t ++ (kwF 2 ++ (laF la ++ leafF (numF prec) 2 la f [] []))) w' ∧ Below B w w') := by
  have ho' := Lib.hid ho
  obtain ⟨h0, h1, _, _, _⟩ := ho
  have HC := Lib.hid (geom0Layout_c bo la w h0)
  have HM := Lib.hid cL2
  have Hlf : leafF (numF prec) 2 la f [] [] = EMP := by rw [leafF, if_neg (by decide), if_pos (by decide), if_pos hne]
  have hst0 : 2 ≤ strideF la ∧ strideF la ≤ 4 := by unfold strideF; repeat' split <;> omega
  rw [Hlf] at hlen ⊢
  have hkl : kwF 2 ++ (laF la ++ (EMP)) = (kwF 2 ++ laF la) ++ (EMP) := (List.append_assoc _ _ _).symm
  rw [hkl] at hlen ⊢
  obtain ⟨hd, hhd⟩ : ∃ x, x = kwF 2 ++ laF la := ⟨_, rfl⟩
  rw [← hhd] at hlen ⊢
  have Hhd := Lib.hid hhd
  clear hhd
  have hlen1 : Hid (t.length + hd.length ≤ 140737488355000) := Lib.hid (by rw [List.length_append] at hlen; omega)
  have hlen2 : Hid ((t ++ hd).length + (EMP).length ≤ 140737488355000) := Lib.hid (by rw [List.length_append] at hlen ⊢; omega)
  have hkl2 : t ++ (hd ++ (EMP)) = (t ++ hd) ++ (EMP) := (List.append_assoc _ _ _).symm
  rw [hkl2]
  have Hne := Lib.hid hne
  have Hst0 := Lib.hid hst0
  skip
  have HCtx := Lib.hid c
  clear Hlf hkl hlen hkl2 c hne hst0
  have a59 := ta_62_59
  have a62 := ta_62_62
  have a65 := ta_62_65
  have a68 := ta_62_68
  have a72 := ta_62_72
  have a78 := ta_62_78
  have a81 := ta_62_81
  have a85 := ta_62_85
  go_enter Tryz.func50, Tryz.ntmps50
  go_upto_region 27 with (refine wp_invoke0 rfl _ _ _ rfl _ _ rfl _ _ (HM.out _ _) _ HC.out ?_)
  go_upto_block 1 with fail
  go_cut [7] (fun s7 wx => wx = w ∧ s7 = .string ⟨hd.toArray⟩)
  case first =>
    have : la = 1 ∨ la = 2 ∨ la = 3 ∨ la = 4 := by omega
    rcases this with rfl | rfl | rfl | rfl
    all_goals
      go_wp2_with fail
      go_meet
      case rel => exact ⟨rfl, by rw [Hhd.out]; rfl⟩
  case rest =>
    obtain ⟨rfl, rfl⟩ := hcut
    have hW := Lib.hid (writeString_c B b t hd wc h (by have := hlen1.out; omega) HCtx.out.size)
    go_wp2_with (go_at_call 57; refine hW.out.mono ?_)
    try simp only [and_imp]
    rintro e w2 rfl hs2 hb2
    have hcx := HCtx.out.below hb2
    obtain ⟨p0, p1, ⟨vf, p2, p3⟩, p4, p5⟩ := ho'.out.keep hbo (keeps_of_below hb2)
    have hs2' := hs2
    have hsz2 := hcx.size
    have Hst := Lib.hid (fun w' => layStride_c la (by omega) w')
    have p3' := p3
    obtain ⟨af, cf, rfl, _, _⟩ := p3'
    have HE := Lib.hid (geom0Empty_c bo af f.length cf w2 p2)
    have hlz : f.length = 0 := by rw [Hne.out]; rfl
    have hdz : decide (f.length = 0) = true := decide_eq_true hlz
    clear hlz
    have hE := Lib.hid (writeEmpty_c B b (.pointer (some ⟨en, 0, none⟩)) _ w2 hs2 (by have := hlen2.out; have e5 : EMP.length = 5 := rfl; omega) hsz2)
    have Hb2 := Lib.hid hb2
    clear hb2 hs2 hs2' p0 p1 p2 p3 p4 p5 hcx
    go_wp2_with (first | (go_at_call 58; refine HE.out.mono ?_; rintro e w3 ⟨rfl, rfl⟩) | (go_at_call 59; refine hE.out.mono ?_; rintro e w3 ⟨rfl, hs3, hb3⟩))
    go_ret
    exact ⟨rfl, hs3, Hb2.out.trans hb3⟩

set_option maxHeartbeats 6400000 in
set_option maxRecDepth 100000 in
theorem write2n_c (B en b bo : Nat) (prec : Int) (t : List UInt8) (la : Int) (f : List Nat) (w : World) (c : Ctx B en prec w) (h : Sb B b t w) (ho : LeafAt (· < B) w bo 2 la f [] []) (hbo : bo < B) (hl0 : 1 ≤ la) (hl1 : la ≤ 4) (hne : (f ≠ [])) (hgood : f.length % (strideF la).toNat = 0)
    (hlen : t.length + (kwF 2 ++ (laF la ++ leafF (numF prec) 2 la f [] [])).length ≤ 140737488355000) :
    Calls Tryz.prog 50 #[.pointer (some ⟨en, 0, none⟩), .pointer (some ⟨b, 0, none⟩), .iface 62 (.pointer (some ⟨bo, 0, none⟩))] w fun e w' => e = .returned .nilIface ∧ (Sb B b (t ++ (kwF 2 ++ (laF la ++ leafF (numF prec) 2 la f [] []))) w' ∧ Below B w w') := by
  have ho' := Lib.hid ho
  obtain ⟨h0, h1, _, _, _⟩ := ho
  have HC := Lib.hid (geom0Layout_c bo la w h0)
  have HM := Lib.hid cL2
  have Hlf : leafF (numF prec) 2 la f [] [] = flat1F (numF prec) (strideF la).toNat f := by rw [leafF, if_neg (by decide), if_pos (by decide), if_neg hne]
  have hst0 : 2 ≤ strideF la ∧ strideF la ≤ 4 := by unfold strideF; repeat' split <;> omega
  rw [Hlf] at hlen ⊢
  have hkl : kwF 2 ++ (laF la ++ (flat1F (numF prec) (strideF la).toNat f)) = (kwF 2 ++ laF la) ++ (flat1F (numF prec) (strideF la).toNat f) := (List.append_assoc _ _ _).symm
  rw [hkl] at hlen ⊢
  obtain ⟨hd, hhd⟩ : ∃ x, x = kwF 2 ++ laF la := ⟨_, rfl⟩
  rw [← hhd] at hlen ⊢
  have Hhd := Lib.hid hhd
  clear hhd
  have hlen1 : Hid (t.length + hd.length ≤ 140737488355000) := Lib.hid (by rw [List.length_append] at hlen; omega)
  have hlen2 : Hid ((t ++ hd).length + (flat1F (numF prec) (strideF la).toNat f).length ≤ 140737488355000) := Lib.hid (by rw [List.length_append] at hlen ⊢; omega)
  have hkl2 : t ++ (hd ++ (flat1F (numF prec) (strideF la).toNat f)) = (t ++ hd) ++ (flat1F (numF prec) (strideF la).toNat f) := (List.append_assoc _ _ _).symm
  rw [hkl2]
  have Hne := Lib.hid hne
  have Hst0 := Lib.hid hst0
  have Hgood := Lib.hid hgood
  have HCtx := Lib.hid c
  clear Hlf hkl hlen hkl2 c hne hst0 hgood
  have a59 := ta_62_59
  have a62 := ta_62_62
  have a65 := ta_62_65
  have a68 := ta_62_68
  have a72 := ta_62_72
  have a78 := ta_62_78
  have a81 := ta_62_81
  have a85 := ta_62_85
  go_enter Tryz.func50, Tryz.ntmps50
  go_upto_region 27 with (refine wp_invoke0 rfl _ _ _ rfl _ _ rfl _ _ (HM.out _ _) _ HC.out ?_)
  go_upto_block 1 with fail
  go_cut [7] (fun s7 wx => wx = w ∧ s7 = .string ⟨hd.toArray⟩)
  case first =>
    have : la = 1 ∨ la = 2 ∨ la = 3 ∨ la = 4 := by omega
    rcases this with rfl | rfl | rfl | rfl
    all_goals
      go_wp2_with fail
      go_meet
      case rel => exact ⟨rfl, by rw [Hhd.out]; rfl⟩
  case rest =>
    obtain ⟨rfl, rfl⟩ := hcut
    have hW := Lib.hid (writeString_c B b t hd wc h (by have := hlen1.out; omega) HCtx.out.size)
    go_wp2_with (go_at_call 57; refine hW.out.mono ?_)
    try simp only [and_imp]
    rintro e w2 rfl hs2 hb2
    have hcx := HCtx.out.below hb2
    obtain ⟨p0, p1, ⟨vf, p2, p3⟩, p4, p5⟩ := ho'.out.keep hbo (keeps_of_below hb2)
    have hs2' := hs2
    have hsz2 := hcx.size
    have Hst := Lib.hid (fun w' => layStride_c la (by omega) w')
    have p3' := p3
    obtain ⟨af, cf, rfl, _, _⟩ := p3'
    have HE := Lib.hid (geom0Empty_c bo af f.length cf w2 p2)
    have hdz : decide (f.length = 0) = false := decide_eq_false (fun h => Hne.out (List.length_eq_zero_iff.1 h))
    have HF := Lib.hid (fun w' (hw : Below B w2 w') => flatCoords_c bo (.slice af f.length cf) w' ((keeps_of_below hw).cell hbo p2))
    obtain ⟨st, hst⟩ : ∃ st : Nat, strideF la = st := ⟨(strideF la).toNat, by have := Hst0.out; omega⟩
    have hst' : (strideF la).toNat = st := by omega
    have hstr := Hst0.out
    have Hsn := Lib.hid hst'
    have hgood := Hgood.out
    (try simp only [hst'] at hgood)
    (try rw [hst] at hgood)
    (try simp only [hst'] at hlen2)
    rw [hst] at Hst
    have hX := Lib.hid (fun w' (hw : Below B w2 w') (hs : Sb B b (t ++ hd) w') => writeFlat1_c B en b prec _ _ f st w' (hcx.below hw) hs (p3.keep (keeps_of_below hw)) (by omega) (by omega) hgood hlen2.out)
    have Hs2 := Lib.hid hs2
    have Hb2 := Lib.hid hb2
    have Hp := Lib.hid p3
    clear hb2 hs2 hs2' p0 p1 p2 p3 p4 p5 hcx hgood
    go_wp2_with (first | (go_at_call 58; refine HE.out.mono ?_; rintro e w3 ⟨rfl, rfl⟩) | (go_at_call 61; refine (HF.out _ (by first | exact Below.refl _ _ | exact below_drewN (Below.refl _ _) _)).mono ?_; rintro e w3 ⟨rfl, rfl⟩) | (go_at_call 52; refine (Hst.out _).mono ?_; rintro e w3 ⟨rfl, rfl⟩) | (go_at_call 62; refine (hX.out _ (by first | exact Below.refl _ _ | exact below_drewN (Below.refl _ _) _) (by first | exact Hs2.out | exact Hs2.out.below (below_drewN (Below.refl _ _) _))).mono ?_; rintro e w4 ⟨rfl, hs4, hb4⟩))
    go_ret
    exact ⟨rfl, (by first | exact hs4 | (rw [Hsn.out]; exact hs4)), Hb2.out.trans hb4⟩
end Go.Proofs.YtfbgnonnbcejkaaGreatDoor
namespace Go.Proofs.YtfbgnonnbcejkaaGreatDoor
open Go.RowKit

set_option maxHeartbeats 6400000 in
set_option maxRecDepth 100000 in
theorem write8e_c (B en b bo : Nat) (prec : Int) (t : List UInt8) (la : Int) (f : List Nat) (w : World) (c : Ctx B en prec w) (h : Sb B b t w) (ho : LeafAt (· < B) w bo 8 la f [] []) (hbo : bo < B) (hl0 : 1 ≤ la) (hl1 : la ≤ 4) (hne : (f = [])) 
    (hlen : t.length + (kwF 8 ++ (laF la ++ leafF (numF prec) 8 la f [] [])).length ≤ 140737488355000) :
    Calls Tryz.prog 50 #[.pointer (some ⟨en, 0, none⟩), .pointer (some ⟨b, 0, none⟩), .iface 65 (.pointer (some ⟨bo, 0, none⟩))] w fun e w' => e = .returned .nilIface ∧ (Sb B b (t ++ (kwF 8 ++ (laF la ++ leafF (numF prec) 8 la f [] []))) w' ∧ Below B w w') := by
  have ho' := Lib.hid ho
  obtain ⟨h0, h1, _, _, _⟩ := ho
  have HC := Lib.hid (geom0Layout_c bo la w h0)
  have HM := Lib.hid cL8
  have Hlf : leafF (numF prec) 8 la f [] [] = EMP := by rw [leafF, if_neg (by decide), if_pos (by decide), if_pos hne]
  have hst0 : 2 ≤ strideF la ∧ strideF la ≤ 4 := by unfold strideF; repeat' split <;> omega
  rw [Hlf] at hlen ⊢
  have hkl : kwF 8 ++ (laF la ++ (EMP)) = (kwF 8 ++ laF la) ++ (EMP) := (List.append_assoc _ _ _).symm
  rw [hkl] at hlen ⊢
  obtain ⟨hd, hhd⟩ : ∃ x, x = kwF 8 ++ laF la := ⟨_, rfl⟩
  rw [← hhd] at hlen ⊢
  have Hhd := Lib.hid hhd
  clear hhd
  have hlen1 : Hid (t.length + hd.length ≤ 140737488355000) := Lib.hid (by rw [List.length_append] at hlen; omega)
  have hlen2 : Hid ((t ++ hd).length + (EMP).length ≤ 140737488355000) := Lib.hid (by rw [List.length_append] at hlen ⊢; omega)
  have hkl2 : t ++ (hd ++ (EMP)) = (t ++ hd) ++ (EMP) := (List.append_assoc _ _ _).symm
  rw [hkl2]
  have Hne := Lib.hid hne
  have Hst0 := Lib.hid hst0
  skip
  have HCtx := Lib.hid c
  clear Hlf hkl hlen hkl2 c hne hst0
  have a59 := ta_65_59
  have a62 := ta_65_62
  have a65 := ta_65_65
  have a68 := ta_65_68
  have a72 := ta_65_72
  have a78 := ta_65_78
  have a81 := ta_65_81
  have a85 := ta_65_85
  go_enter Tryz.func50, Tryz.ntmps50
  go_upto_region 27 with (refine wp_invoke0 rfl _ _ _ rfl _ _ rfl _ _ (HM.out _ _) _ HC.out ?_)
  go_upto_block 1 with fail
  go_cut [7] (fun s7 wx => wx = w ∧ s7 = .string ⟨hd.toArray⟩)
  case first =>
    have : la = 1 ∨ la = 2 ∨ la = 3 ∨ la = 4 := by omega
    rcases this with rfl | rfl | rfl | rfl
    all_goals
      go_wp2_with fail
      go_meet
      case rel => exact ⟨rfl, by rw [Hhd.out]; rfl⟩
  case rest =>
    obtain ⟨rfl, rfl⟩ := hcut
    have hW := Lib.hid (writeString_c B b t hd wc h (by have := hlen1.out; omega) HCtx.out.size)
    go_wp2_with (go_at_call 57; refine hW.out.mono ?_)
    try simp only [and_imp]
    rintro e w2 rfl hs2 hb2
    have hcx := HCtx.out.below hb2
    obtain ⟨p0, p1, ⟨vf, p2, p3⟩, p4, p5⟩ := ho'.out.keep hbo (keeps_of_below hb2)
    have hs2' := hs2
    have hsz2 := hcx.size
    have Hst := Lib.hid (fun w' => layStride_c la (by omega) w')
    have p3' := p3
    obtain ⟨af, cf, rfl, _, _⟩ := p3'
    have HE := Lib.hid (geom0Empty_c bo af f.length cf w2 p2)
    have hlz : f.length = 0 := by rw [Hne.out]; rfl
    have hdz : decide (f.length = 0) = true := decide_eq_true hlz
    clear hlz
    have hE := Lib.hid (writeEmpty_c B b (.pointer (some ⟨en, 0, none⟩)) _ w2 hs2 (by have := hlen2.out; have e5 : EMP.length = 5 := rfl; omega) hsz2)
    have Hb2 := Lib.hid hb2
    clear hb2 hs2 hs2' p0 p1 p2 p3 p4 p5 hcx
    go_wp2_with (first | (go_at_call 58; refine HE.out.mono ?_; rintro e w3 ⟨rfl, rfl⟩) | (go_at_call 59; refine hE.out.mono ?_; rintro e w3 ⟨rfl, hs3, hb3⟩))
    go_ret
    exact ⟨rfl, hs3, Hb2.out.trans hb3⟩

set_option maxHeartbeats 6400000 in
set_option maxRecDepth 100000 in
theorem write8n_c (B en b bo : Nat) (prec : Int) (t : List UInt8) (la : Int) (f : List Nat) (w : World) (c : Ctx B en prec w) (h : Sb B b t w) (ho : LeafAt (· < B) w bo 8 la f [] []) (hbo : bo < B) (hl0 : 1 ≤ la) (hl1 : la ≤ 4) (hne : (f ≠ [])) (hgood : f.length % (strideF la).toNat = 0)
    (hlen : t.length + (kwF 8 ++ (laF la ++ leafF (numF prec) 8 la f [] [])).length ≤ 140737488355000) :
    Calls Tryz.prog 50 #[.pointer (some ⟨en, 0, none⟩), .pointer (some ⟨b, 0, none⟩), .iface 65 (.pointer (some ⟨bo, 0, none⟩))] w fun e w' => e = .returned .nilIface ∧ (Sb B b (t ++ (kwF 8 ++ (laF la ++ leafF (numF prec) 8 la f [] []))) w' ∧ Below B w w') := by
  have ho' := Lib.hid ho
  obtain ⟨h0, h1, _, _, _⟩ := ho
  have HC := Lib.hid (geom0Layout_c bo la w h0)
  have HM := Lib.hid cL8
  have Hlf : leafF (numF prec) 8 la f [] [] = flat1F (numF prec) (strideF la).toNat f := by rw [leafF, if_neg (by decide), if_pos (by decide), if_neg hne]
  have hst0 : 2 ≤ strideF la ∧ strideF la ≤ 4 := by unfold strideF; repeat' split <;> omega
  rw [Hlf] at hlen ⊢
  have hkl : kwF 8 ++ (laF la ++ (flat1F (numF prec) (strideF la).toNat f)) = (kwF 8 ++ laF la) ++ (flat1F (numF prec) (strideF la).toNat f) := (List.append_assoc _ _ _).symm
  rw [hkl] at hlen ⊢
  obtain ⟨hd, hhd⟩ : ∃ x, x = kwF 8 ++ laF la := ⟨_, rfl⟩
  rw [← hhd] at hlen ⊢
  have Hhd := Lib.hid hhd
  clear hhd
  have hlen1 : Hid (t.length + hd.length ≤ 140737488355000) := Lib.hid (by rw [List.length_append] at hlen; omega)
  have hlen2 : Hid ((t ++ hd).length + (flat1F (numF prec) (strideF la).toNat f).length ≤ 140737488355000) := Lib.hid (by rw [List.length_append] at hlen ⊢; omega)
  have hkl2 : t ++ (hd ++ (flat1F (numF prec) (strideF la).toNat f)) = (t ++ hd) ++ (flat1F (numF prec) (strideF la).toNat f) := (List.append_assoc _ _ _).symm
  rw [hkl2]
  have Hne := Lib.hid hne
  have Hst0 := Lib.hid hst0
  have Hgood := Lib.hid hgood
  have HCtx := Lib.hid c
  clear Hlf hkl hlen hkl2 c hne hst0 hgood
  have a59 := ta_65_59
  have a62 := ta_65_62
  have a65 := ta_65_65
  have a68 := ta_65_68
  have a72 := ta_65_72
  have a78 := ta_65_78
  have a81 := ta_65_81
  have a85 := ta_65_85
  go_enter Tryz.func50, Tryz.ntmps50
  go_upto_region 27 with (refine wp_invoke0 rfl _ _ _ rfl _ _ rfl _ _ (HM.out _ _) _ HC.out ?_)
  go_upto_block 1 with fail
  go_cut [7] (fun s7 wx => wx = w ∧ s7 = .string ⟨hd.toArray⟩)
  case first =>
    have : la = 1 ∨ la = 2 ∨ la = 3 ∨ la = 4 := by omega
    rcases this with rfl | rfl | rfl | rfl
    all_goals
      go_wp2_with fail
      go_meet
      case rel => exact ⟨rfl, by rw [Hhd.out]; rfl⟩
  case rest =>
    obtain ⟨rfl, rfl⟩ := hcut
    have hW := Lib.hid (writeString_c B b t hd wc h (by have := hlen1.out; omega) HCtx.out.size)
    go_wp2_with (go_at_call 57; refine hW.out.mono ?_)
    try simp only [and_imp]
    rintro e w2 rfl hs2 hb2
    have hcx := HCtx.out.below hb2
    obtain ⟨p0, p1, ⟨vf, p2, p3⟩, p4, p5⟩ := ho'.out.keep hbo (keeps_of_below hb2)
    have hs2' := hs2
    have hsz2 := hcx.size
    have Hst := Lib.hid (fun w' => layStride_c la (by omega) w')
    have p3' := p3
    obtain ⟨af, cf, rfl, _, _⟩ := p3'
    have HE := Lib.hid (geom0Empty_c bo af f.length cf w2 p2)
    have hdz : decide (f.length = 0) = false := decide_eq_false (fun h => Hne.out (List.length_eq_zero_iff.1 h))
    have HF := Lib.hid (fun w' (hw : Below B w2 w') => flatCoords_c bo (.slice af f.length cf) w' ((keeps_of_below hw).cell hbo p2))
    obtain ⟨st, hst⟩ : ∃ st : Nat, strideF la = st := ⟨(strideF la).toNat, by have := Hst0.out; omega⟩
    have hst' : (strideF la).toNat = st := by omega
    have hstr := Hst0.out
    have Hsn := Lib.hid hst'
    have hgood := Hgood.out
    (try simp only [hst'] at hgood)
    (try rw [hst] at hgood)
    (try simp only [hst'] at hlen2)
    rw [hst] at Hst
    have hX := Lib.hid (fun w' (hw : Below B w2 w') (hs : Sb B b (t ++ hd) w') => writeFlat1_c B en b prec _ _ f st w' (hcx.below hw) hs (p3.keep (keeps_of_below hw)) (by omega) (by omega) hgood hlen2.out)
    have Hs2 := Lib.hid hs2
    have Hb2 := Lib.hid hb2
    have Hp := Lib.hid p3
    clear hb2 hs2 hs2' p0 p1 p2 p3 p4 p5 hcx hgood
    go_wp2_with (first | (go_at_call 58; refine HE.out.mono ?_; rintro e w3 ⟨rfl, rfl⟩) | (go_at_call 61; refine (HF.out _ (by first | exact Below.refl _ _ | exact below_drewN (Below.refl _ _) _)).mono ?_; rintro e w3 ⟨rfl, rfl⟩) | (go_at_call 52; refine (Hst.out _).mono ?_; rintro e w3 ⟨rfl, rfl⟩) | (go_at_call 62; refine (hX.out _ (by first | exact Below.refl _ _ | exact below_drewN (Below.refl _ _) _) (by first | exact Hs2.out | exact Hs2.out.below (below_drewN (Below.refl _ _) _))).mono ?_; rintro e w4 ⟨rfl, hs4, hb4⟩))
    go_ret
    exact ⟨rfl, (by first | exact hs4 | (rw [Hsn.out]; exact hs4)), Hb2.out.trans hb4⟩
end Go.Proofs.YtfbgnonnbcejkaaGreatDoor
