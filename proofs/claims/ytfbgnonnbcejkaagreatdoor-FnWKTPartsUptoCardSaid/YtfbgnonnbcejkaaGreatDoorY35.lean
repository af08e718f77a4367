/- Lemmas on the way to the law FnWKTParts, without conditions beside those that each states: write: collections; write of any good geometry | write: any good geometry of layouts up to XYZM. -/
import Derived.Test.YtfbgnonnbcejkaaGreatDoorY32
import Derived.Test.YtfbgnonnbcejkaaGreatDoorY33
import Derived.Test.YtfbgnonnbcejkaaGreatDoorY34
namespace Go.Proofs.YtfbgnonnbcejkaaGreatDoor
open Go.RowKit

/-- What write does with one part, by induction. -/
def WriteOk (g : Geo) : Prop := goodF g = true → gLayF 4 g = true → ∀ (B en b : Nat) (prec : Int) (t : List UInt8) (v : Value) (w : World), Ctx B en prec w → Sb B b t w → ObjAt (· < B) w v g → t.length + (textF (numF prec) g).length ≤ 140737488355000 →
    Calls Tryz.prog 50 #[.pointer (some ⟨en, 0, none⟩), .pointer (some ⟨b, 0, none⟩), v] w fun e w' => e = .returned .nilIface ∧ (Sb B b (t ++ textF (numF prec) g) w' ∧ Below B w w')

set_option maxHeartbeats 12800000 in
set_option maxRecDepth 100000 in
theorem write7_c (l s : Int) (f : List Nat) (es : List Int) (ee : List (List Int)) (kids : List Geo) (ih : ∀ g ∈ kids, WriteOk g) : WriteOk (.mk 7 l s f es ee kids) := by
  intro hgood hlay B en b prec t v w c h ho hlen
  have hr := layoutOfF_range 4 (by omega) _ hlay
  have hempty : layoutOfF (.mk 7 l s f es ee kids) = 0 → emptyF (.mk 7 l s f es ee kids) = true := empty_of_no_layout 4 _ hlay
  have hvb : ∃ bo, bo < B ∧ v = .iface 85 (.pointer (some ⟨bo, 0, none⟩)) := ho.shape
  obtain ⟨bo, hbo, rfl⟩ := hvb
  have HL := Lib.hid (fun w' (ho' : ObjAt (· < B) w' (.iface 85 (.pointer (some ⟨bo, 0, none⟩))) (.mk 7 l s f es ee kids)) => objLayout_c _ _ (Nat.le_refl _) hgood (· < B) w' bo ho')
  have HEm := Lib.hid (fun w' (ho' : ObjAt (· < B) w' (.iface 85 (.pointer (some ⟨bo, 0, none⟩))) (.mk 7 l s f es ee kids)) => objEmpty_c _ _ (Nat.le_refl _) hgood (· < B) w' bo ho')
  have hg7 := hgood
  rw [goodF, if_pos rfl] at hg7
  rw [gLayF] at hlay
  simp only [Bool.and_eq_true] at hg7 hlay
  have Hgk := Lib.hid (goodAll_mem' l kids hg7.1)
  have Hlk := Lib.hid (gLayAll_mem 4 kids hlay.1)
  have ht : textF (numF prec) (.mk 7 l s f es ee kids) = kwF 7 ++ (laF (layoutOfF (.mk 7 l s f es ee kids)) ++ (if kids = [] then EMP else 40 :: (seqF true (textAll (numF prec) kids) ++ [41]))) := by
    rw [textF, if_pos rfl]
  have ho2 := ho
  obtain ⟨b', hb', hv', _, h3⟩ := ho2
  cases hv'
  obtain ⟨h4, ao, cp, gg, h5, h6, h6', h7, h8⟩ := h3 rfl
  have HO := Lib.hid ho
  have Hih := Lib.hid ih
  have H7 := Lib.hid h7
  have H8 := Lib.hid h8
  have H5 := Lib.hid h5
  have HCtx := Lib.hid c
  rw [ht] at hlen ⊢
  generalize hBd : (if kids = [] then EMP else 40 :: (seqF true (textAll (numF prec) kids) ++ [41])) = Bd at *
  have HBd := Lib.hid hBd
  generalize emptyF (.mk 7 l s f es ee kids) = em at *
  generalize hla : layoutOfF (.mk 7 l s f es ee kids) = la at *
  have hkl : kwF 7 ++ (laF la ++ Bd) = (kwF 7 ++ laF la) ++ Bd := (List.append_assoc _ _ _).symm
  rw [hkl] at hlen ⊢
  obtain ⟨hd, hhd⟩ : ∃ x, x = kwF 7 ++ laF la := ⟨_, rfl⟩
  rw [← hhd] at hlen ⊢
  have Hhd := Lib.hid hhd
  have hlen1 : Hid (t.length + hd.length ≤ 140737488355000) := Lib.hid (by rw [List.length_append] at hlen; omega)
  have hlen2 : Hid ((t ++ hd).length + Bd.length ≤ 140737488355000) := Lib.hid (by rw [List.length_append] at hlen ⊢; omega)
  have hkl2 : t ++ (hd ++ Bd) = (t ++ hd) ++ Bd := (List.append_assoc _ _ _).symm
  rw [hkl2]
  have HC := Lib.hid (HL.out w ho)
  have HM := Lib.hid cL7
  have HEm0 := Lib.hid (HEm.out w ho)
  clear hhd hkl hlen hkl2 c h3 h4 h5 h7 h8 ho ih hg7 hlay ht hBd hla hgood
  have a59 := ta_85_59
  have a62 := ta_85_62
  have a65 := ta_85_65
  have a68 := ta_85_68
  have a72 := ta_85_72
  have a78 := ta_85_78
  have a81 := ta_85_81
  have a85 := ta_85_85
  obtain ⟨hl0, hl4⟩ := hr
  go_enter Tryz.func50, Tryz.ntmps50
  go_upto_region 27 with (refine wp_invoke0 rfl _ _ _ rfl _ _ rfl _ _ (HM.out _ _) _ HC.out ?_)
  go_upto_block 1 with fail
  go_cut [7] (fun s7 wx => wx = w ∧ s7 = .string ⟨hd.toArray⟩)
  case first =>
    by_cases h00 : la = 0
    · have hem := hempty h00
      subst h00 hem
      go_wp2_with (go_at_call 56; refine HEm0.out.mono ?_; rintro e w3 ⟨rfl, rfl⟩)
      go_meet
      case rel => exact ⟨rfl, by rw [Hhd.out]; rfl⟩
    · clear hempty
      have : la = 1 ∨ la = 2 ∨ la = 3 ∨ la = 4 := by omega
      rcases this with rfl | rfl | rfl | rfl
      all_goals
        go_wp2_with fail
        go_meet
        case rel => exact ⟨rfl, by rw [Hhd.out]; rfl⟩
  case rest =>
    obtain ⟨rfl, rfl⟩ := hcut
    have hW := Lib.hid (writeString_c B b t hd wc h (by have := hlen1.out; omega) HCtx.out.size)
    go_wp2_with (go_at_call 57; refine hW.out.mono ?_)
    try simp only [and_imp]
    rintro e w2 rfl hs2 hb2
    have hcx := HCtx.out.below hb2
    have hsz2 := hcx.size
    have p5 := (keeps_of_below hb2).cell hbo H5.out
    have HNg := Lib.hid (numGeoms_c bo ao kids.length cp w2 p5)
    by_cases hnil : kids = []
    · have hlz : kids.length = 0 := by rw [hnil]; rfl
      have hdz : (((kids.length : Nat) : Int) == 0) = true := by rw [hlz]; rfl
      have hBE : Bd = EMP := by rw [← HBd.out, if_pos hnil]
      subst hBE
      have hE := Lib.hid (writeEmpty_c B b (.pointer (some ⟨en, 0, none⟩)) _ w2 hs2 (by have := hlen2.out; have e5 : EMP.length = 5 := rfl; omega) hsz2)
      have Hb2 := Lib.hid hb2
      clear hb2 hs2 p5 hcx hlz hnil hempty
      go_wp2_with (first | (go_at_call 71; refine HNg.out.mono ?_; rintro e w3 ⟨rfl, rfl⟩) | (go_at_call 59; refine hE.out.mono ?_; rintro e w3 ⟨rfl, hs3, hb3⟩))
      go_ret
      exact ⟨rfl, hs3, Hb2.out.trans hb3⟩
    · have hkpos : 0 < kids.length := List.length_pos_iff.2 hnil
      have hdz : (((kids.length : Nat) : Int) == 0) = false := by rw [beq_eq_false_iff_ne]; omega
      have hBE : Bd = 40 :: (seqF true (textAll (numF prec) kids) ++ [41]) := by rw [← HBd.out, if_neg hnil]
      generalize hT : seqF true (textAll (numF prec) kids) = T at hBE
      subst hBE
      have HT := Lib.hid hT
      obtain ⟨rfl, hgB⟩ := H7.out hkpos
      have hR1 := Lib.hid (writeRune_c B b (t ++ hd) 40 40 rfl (by decide) w2 hs2 (by have := hlen2.out; simp at this ⊢; omega) hsz2)
      have Hb2 := Lib.hid hb2
      have Hcx := Lib.hid hcx
      clear hs2 hb2 hcx hempty hnil hT
      go_wp2_with (first | (go_at_call 71; refine HNg.out.mono ?_; rintro e w3 ⟨rfl, rfl⟩) | (go_at_call 72; refine hR1.out.mono ?_))
      try simp only [and_imp]
      rintro e w3 rfl hs3 hb3
      have p5' := (keeps_of_below hb3).cell hbo p5
      have HGs := Lib.hid (geoms_c bo _ w3 p5')
      have hb3' : Below B wc w3 := Hb2.out.trans hb3
      have Hb3 := Lib.hid hb3'
      have Hs3 := Lib.hid hs3
      clear hb3 hs3 hb3' p5 p5'
      go_wp2_with (go_at_call 73; refine HGs.out.mono ?_; rintro e w4 ⟨rfl, rfl⟩)
      go_loopw [290] (fun i wr => ∃ (k : Nat) (l' : List UInt8), k ≤ kids.length ∧ i = .int .i64 k ∧ Sb B b l' wr ∧ l' ++ seqF (k == 0) ((textAll (numF prec) kids).drop k) = ((t ++ hd) ++ [40]) ++ T ∧ Below B wc wr) (fun i _ => kids.length - (intOf i).toNat)
      case atStart => exact ⟨0, (t ++ hd) ++ [40], Nat.zero_le _, rfl, Hs3.out, by rw [← HT.out]; rfl, Hb3.out⟩
      case round =>
        obtain ⟨k, l', hk, rfl, hs, hr, hb⟩ := hrel
        have hcx := HCtx.out.below hb
        have hszr := hcx.size
        by_cases hkl : k < kids.length
        · have hget : kids[k]? = some kids[k] := List.getElem?_eq_getElem hkl
          obtain ⟨vk, hcell, hu⟩ := ObjsAt.get kids gg 0 k _ (ObjsAt.keep (keeps_of_below hb) kids gg 0 hgB H8.out) hget
          rw [Nat.zero_add] at hcell
          obtain ⟨bk, hbk, rfl⟩ := hu.shape
          have hdrop : (textAll (numF prec) kids).drop k = textF (numF prec) kids[k] :: (textAll (numF prec) kids).drop (k + 1) := by
            rw [textAll_map, List.drop_eq_getElem_cons (by simpa using hkl), List.getElem_map]
          rw [hdrop] at hr
          simp only [seqF] at hr
          have hmem := List.getElem_mem hkl
          have hgk := Hgk.out _ hmem
          have hlk := Hlk.out _ hmem
          have hihk := Hih.out _ hmem hgk hlk
          have hlr := congrArg List.length hr
          simp only [List.length_append, List.length_cons, List.length_nil] at hlr
          have hC := Lib.hid (fun (l1 : List UInt8) w' (h1 : Sb B b l1 w') (h2 : Below B wr w') (h3 : l1.length ≤ l'.length + (if (k == 0) = true then ([] : List UInt8) else [44, 32]).length) => hihk B en b prec l1 _ w' (hcx.below h2) h1 (ObjAt.keep (keeps_of_below h2) _ _ hu) (by have := hlen2.out; simp only [List.length_append, List.length_cons, List.length_nil] at this; omega))
          have hW2 := Lib.hid (fun w' (h1 : Sb B b l' w') (h2 : B ≤ w'.heap.size) (h3 : l'.length + 2 ≤ 140737488355328) => writeString_c B b l' [44, 32] w' h1 h3 h2)
          have hlw : (k == 0) = false → l'.length + 2 ≤ 140737488355328 := fun hz => by have := hlen2.out; rw [hz] at hlr; simp at hlr this; omega
          have Hlw := Lib.hid hlw
          have hf0 : (k + 1 == 0) = false := by rw [beq_eq_false_iff_ne]; omega
          have Hf0 := Lib.hid hf0
          have Hb := Lib.hid hb
          have Hr := Lib.hid hr
          clear hcx hb hr hlr hlw hf0 hdrop hu hget hihk hgk hlk hmem
          generalize tidF kids[k].kind = tk at *
          generalize textF (numF prec) kids[k] = tx at *
          by_cases hk0 : k = 0
          · have hz0 : ((k : Int) != 0) = false := by simp [hk0]
            have Hk0 := Lib.hid hk0
            clear hk0
            go_wp2_with (go_at_call 50; refine (hC.out _ _ hs (Below.refl _ _) (Nat.le_add_right _ _)).mono ?_)
            try simp only [and_imp]
            rintro e w5 rfl hs5 hb5
            have Hs5 := Lib.hid hs5
            have Hb5 := Lib.hid hb5
            clear hs5 hb5 hs
            go_wp2
            go_roundw
            case rel => exact ⟨k + 1, _, by omega, by go_num, Hs5.out, by rw [← Hr.out, Hf0.out]; simp [Hk0.out], Hb.out.trans Hb5.out⟩
            case measure => simp [intOf]; omega
          · have hz0 : ((k : Int) != 0) = true := by simp [hk0]
            have Hk0 := Lib.hid hk0
            clear hk0
            go_wp2_with (go_at_call 57; refine (hW2.out _ hs hszr (Hlw.out (by simp [Hk0.out]))).mono ?_)
            try simp only [and_imp]
            rintro e w4 rfl hs4 hb4
            have Hs4 := Lib.hid hs4
            have Hb4 := Lib.hid hb4
            clear hs4 hb4 hs
            go_wp2_with (go_at_call 50; refine (hC.out _ _ Hs4.out Hb4.out (by simp [Hk0.out])).mono ?_)
            try simp only [and_imp]
            rintro e w5 rfl hs5 hb5
            have Hs5 := Lib.hid hs5
            have Hb5 := Lib.hid hb5
            clear hs5 hb5
            go_wp2
            go_roundw
            case rel => exact ⟨k + 1, _, by omega, by go_num, Hs5.out, by rw [← Hr.out, Hf0.out]; simp [Hk0.out], Hb.out.trans (Hb4.out.trans Hb5.out)⟩
            case measure => simp [intOf]; omega
        · have hke : k = kids.length := by omega
          rw [List.drop_eq_nil_of_le (by rw [textAll_map, List.length_map]; omega)] at hr
          have hr' : l' = ((t ++ hd) ++ [40]) ++ T := by rw [← hr]; simp [seqF]
          subst hr'
          have Hb := Lib.hid hb
          have hR2 := Lib.hid (writeRune_c B b _ 41 41 rfl (by decide) wr hs (by have := hlen2.out; simp at this ⊢; omega) hszr)
          clear hr hb hcx hs
          go_wp2_with (go_at_call 72; refine hR2.out.mono ?_)
          try simp only [and_imp]
          rintro e w5 rfl hs5 hb5
          have Hs5 := Lib.hid hs5
          have Hb5 := Lib.hid hb5
          clear hs5 hb5
          go_wp2
          go_ret
          exact ⟨rfl, by have := Hs5.out; simpa using this, Hb.out.trans Hb5.out⟩
end Go.Proofs.YtfbgnonnbcejkaaGreatDoor
namespace Go.Proofs.YtfbgnonnbcejkaaGreatDoor
open Go.RowKit

theorem leafAt_drop {S : Nat → Prop} {w : World} {b : Nat} {k l : Int} {f e ee} (h : LeafAt S w b k l f e ee) (e' : List Int) (ee' : List (List Int)) (h1 : k = 3 ∨ k = 4 ∨ k = 5 → e' = e) (h2 : k = 6 → ee' = ee) : LeafAt S w b k l f e' ee' := by
  obtain ⟨p0, p1, p2, p3, p4⟩ := h
  exact ⟨p0, p1, p2, fun hh => by rw [h1 hh]; exact p3 hh, fun hh => by rw [h2 hh]; exact p4 hh⟩
theorem writeLeaf_c (k l s : Int) (f : List Nat) (es : List Int) (ee : List (List Int)) (kids : List Geo) (h7 : k ≠ 7) : WriteOk (.mk k l s f es ee kids) := by
  intro hgood hlay B en b prec t v w c h ho hlen
  obtain ⟨bo, hbo, rfl, hleaf, _⟩ := ho
  have hL := hleaf h7
  rw [textF_leaf _ _ _ _ _ _ _ _ h7] at hlen ⊢
  rw [goodF_leaf _ _ _ _ _ _ _ h7] at hgood
  rw [gLayF] at hlay
  have hl2 : l ≤ 4 ∧ 1 ≤ l := by
    simp [h7] at hlay
    exact hlay.2
  have hst : 2 ≤ strideF l ∧ strideF l ≤ 4 := by unfold strideF; repeat' split <;> omega
  unfold goodLeaf at hgood
  split at hgood
  · simp at hgood
  · rename_i hn
    have hmod : (f.length : Int) % strideF l = 0 := Decidable.byContradiction fun hh => hn (Or.inr (Or.inl hh))
    have hmod2 : f.length % (strideF l).toNat = 0 := by
      obtain ⟨st, hs⟩ : ∃ st : Nat, strideF l = st := ⟨(strideF l).toNat, by omega⟩
      rw [hs] at hmod ⊢
      simp only [Int.toNat_natCast]
      omega
    by_cases h1 : k = 1
    · subst h1
      simp at hgood
      have hd := leafAt_drop hL [] [] (fun hh => absurd hh (by decide)) (fun hh => absurd hh (by decide))
      have hlf : leafF (numF prec) 1 l f es ee = leafF (numF prec) 1 l f [] [] := by simp [leafF]
      rw [hlf] at hlen ⊢
      by_cases hne : f = []
      · exact write1e_c B en b bo prec t l f w c h hd hbo hl2.2 hl2.1 hne hlen
      · refine write1n_c B en b bo prec t l f w c h hd hbo hl2.2 hl2.1 hne ?_ hlen
        have h0 : 0 < f.length := List.length_pos_iff.2 hne
        rcases Nat.lt_or_ge f.length (strideF l).toNat with h3 | h3
        · rw [Nat.mod_eq_of_lt h3] at hmod2
          omega
        · omega
    · by_cases h2 : k = 2
      · subst h2
        have hd := leafAt_drop hL [] [] (fun hh => absurd hh (by decide)) (fun hh => absurd hh (by decide))
        have hlf : leafF (numF prec) 2 l f es ee = leafF (numF prec) 2 l f [] [] := by simp [leafF]
        rw [hlf] at hlen ⊢
        by_cases hne : f = []
        · exact write2e_c B en b bo prec t l f w c h hd hbo hl2.2 hl2.1 hne hlen
        · exact write2n_c B en b bo prec t l f w c h hd hbo hl2.2 hl2.1 hne hmod2 hlen
      · by_cases h8 : k = 8
        · subst h8
          have hd := leafAt_drop hL [] [] (fun hh => absurd hh (by decide)) (fun hh => absurd hh (by decide))
          have hlf : leafF (numF prec) 8 l f es ee = leafF (numF prec) 8 l f [] [] := by simp [leafF]
          rw [hlf] at hlen ⊢
          by_cases hne : f = []
          · exact write8e_c B en b bo prec t l f w c h hd hbo hl2.2 hl2.1 hne hlen
          · exact write8n_c B en b bo prec t l f w c h hd hbo hl2.2 hl2.1 hne hmod2 hlen
        · by_cases h3 : k = 3
          · subst h3
            simp at hgood
            have ha := goodEndsF_asc (strideF l) false es 0 (goodEndsF (strideF l) false es 0).1 (Prod.ext rfl hgood.1)
            rw [hgood.2] at ha
            have hd := leafAt_drop hL es [] (fun _ => rfl) (fun hh => absurd hh (by decide))
            have hlf : leafF (numF prec) 3 l f es ee = leafF (numF prec) 3 l f es [] := by simp [leafF]
            rw [hlf] at hlen ⊢
            by_cases hne : f = []
            · exact write3e_c B en b bo prec t l f es w c h hd hbo hl2.2 hl2.1 hne hlen
            · exact write3n_c B en b bo prec t l f es w c h hd hbo hl2.2 hl2.1 hne false ha hlen
          · by_cases h4 : k = 4
            · subst h4
              simp at hgood
              have ha := goodEndsF_asc (strideF l) true es 0 (goodEndsF (strideF l) true es 0).1 (Prod.ext rfl hgood.1)
              rw [hgood.2] at ha
              have hd := leafAt_drop hL es [] (fun _ => rfl) (fun hh => absurd hh (by decide))
              have hlf : leafF (numF prec) 4 l f es ee = leafF (numF prec) 4 l f es [] := by simp [leafF]
              rw [hlf] at hlen ⊢
              by_cases hne : es = []
              · exact write4e_c B en b bo prec t l f es w c h hd hbo hl2.2 hl2.1 hne hlen
              · exact write4n_c B en b bo prec t l f es w c h hd hbo hl2.2 hl2.1 hne true ha hlen
            · by_cases h5 : k = 5
              · subst h5
                simp at hgood
                have ha := goodEndsF_asc (strideF l) false es 0 (goodEndsF (strideF l) false es 0).1 (Prod.ext rfl hgood.1)
                rw [hgood.2] at ha
                have hd := leafAt_drop hL es [] (fun _ => rfl) (fun hh => absurd hh (by decide))
                have hlf : leafF (numF prec) 5 l f es ee = leafF (numF prec) 5 l f es [] := by simp [leafF]
                rw [hlf] at hlen ⊢
                by_cases hne : es = []
                · exact write5e_c B en b bo prec t l f es w c h hd hbo hl2.2 hl2.1 hne hlen
                · exact write5n_c B en b bo prec t l f es w c h hd hbo hl2.2 hl2.1 hne false ha hlen
              · by_cases h6 : k = 6
                · subst h6
                  simp at hgood
                  have ha := (goodEndssF_ascs (strideF l) ee 0 (goodEndssF (strideF l) ee 0 true).1 true (Prod.ext rfl hgood.1)).2
                  rw [hgood.2.1] at ha
                  have hd := leafAt_drop hL [] ee (fun hh => absurd hh (by decide)) (fun _ => rfl)
                  have hlf : leafF (numF prec) 6 l f es ee = leafF (numF prec) 6 l f [] ee := by simp [leafF]
                  rw [hlf] at hlen ⊢
                  by_cases hne : ee = []
                  · exact write6e_c B en b bo prec t l f ee w c h hd hbo hl2.2 hl2.1 hne hlen
                  · exact write6n_c B en b bo prec t l f ee w c h hd hbo hl2.2 hl2.1 hne ha hlen
                · exfalso
                  rw [if_neg h1, if_neg (by omega), if_neg (by omega), if_neg h6] at hgood
                  exact Bool.noConfusion hgood
theorem write_c : ∀ (n : Nat) (g : Geo), SizeOf.sizeOf g ≤ n → WriteOk g := by
  intro n
  induction n with
  | zero => intro g hg; cases g; simp at hg
  | succ n ih =>
    intro g hgn
    cases g with
    | mk k l s f e ee kids =>
    by_cases h7 : k = 7
    · subst h7
      refine write7_c l s f e ee kids fun g hg => ih g ?_
      have h1 := List.sizeOf_lt_of_mem hg
      simp at hgn
      omega
    · exact writeLeaf_c k l s f e ee kids h7
end Go.Proofs.YtfbgnonnbcejkaaGreatDoor
