/- Lemmas on the way to the law FnWKTParts, without conditions beside those that each states: Parts | Parts: the walk. -/
import Derived.Test.YtfbgnonnbcejkaaGreatDoorY29
import Derived.Test.YtfbgnonnbcejkaaGreatDoorY30
import Derived.Test.YtfbgnonnbcejkaaGreatDoorY10
namespace Go.Proofs.YtfbgnonnbcejkaaGreatDoor
open Go.RowKit

theorem partsE_get (kd l : Int) (flat : List Nat) : ∀ (e : List Int) (s : Int) (i : Nat), i < e.length → (partsE kd l flat s e)[i]? = some (.mk kd l 0 (cutF flat (if i = 0 then s else e.getD (i - 1) 0) (e.getD i 0)) [] [] [])
  | [], _, _, h => absurd h (Nat.not_lt_zero _)
  | x :: r, s, 0, _ => rfl
  | x :: r, s, i + 1, h => by
    have := partsE_get kd l flat r x i (by simpa using h)
    simp only [partsE, List.getElem?_cons_succ]
    rw [this, if_neg (Nat.succ_ne_zero i)]
    cases i with
    | zero => rfl
    | succ i => rfl
theorem partsE_len (kd l : Int) (flat : List Nat) : ∀ (e : List Int) (s : Int), (partsE kd l flat s e).length = e.length
  | [], _ => rfl
  | x :: r, s => by simp only [partsE, List.length_cons, partsE_len kd l flat r x]
theorem partsP_len (l : Int) (flat : List Nat) : ∀ (e : List (List Int)) (s : Int), (partsP l flat s e).length = e.length
  | [], _ => rfl
  | x :: r, s => by simp only [partsP, List.length_cons, partsP_len l flat r]
theorem partsP_get (l : Int) (flat : List Nat) : ∀ (ee : List (List Int)) (s : Int) (i : Nat), i < ee.length →
    (partsP l flat s ee)[i]? = some (.mk 3 l 0 (cutF flat (lastsF s (ee.take i)) (lastF (lastsF s (ee.take i)) (ee.getD i []))) ((ee.getD i []).map (· - lastsF s (ee.take i))) [] [])
  | [], _, _, h => absurd h (Nat.not_lt_zero _)
  | x :: r, s, 0, _ => rfl
  | x :: r, s, i + 1, h => by
    have := partsP_get l flat r (lastF s x) i (by simpa using h)
    simp only [partsP, List.getElem?_cons_succ]
    rw [this]
    rfl
theorem asc_at {st : Int} {single : Bool} : ∀ {e : List Int} {s t : Int}, Asc st single s e t → ∀ i, i < e.length → s ≤ (if i = 0 then s else e.getD (i - 1) 0) ∧ (if i = 0 then s else e.getD (i - 1) 0) ≤ e.getD i 0 ∧ e.getD i 0 ≤ t
  | [], _, _, _, i, h => absurd h (Nat.not_lt_zero _)
  | x :: r, s, t, h, 0, _ => by
    obtain ⟨⟨h1, _, _⟩, h2⟩ := h
    exact ⟨Int.le_refl _, h1, h2.le.1⟩
  | x :: r, s, t, h, i + 1, hi => by
    obtain ⟨⟨h1, _, _⟩, h2⟩ := h
    have := asc_at h2 i (by simpa using hi)
    rw [if_neg (Nat.succ_ne_zero i)]
    cases i with
    | zero =>
      simp at this ⊢
      exact ⟨h1, this.1, this.2⟩
    | succ i =>
      rw [if_neg (Nat.succ_ne_zero i)] at this
      exact ⟨Int.le_trans h1 this.1, this.2⟩
theorem ascs_at {st : Int} : ∀ {ee : List (List Int)} {s t : Int}, Ascs st s ee t → ∀ i, i < ee.length →
    s ≤ lastsF s (ee.take i) ∧ Asc st false (lastsF s (ee.take i)) (ee.getD i []) (lastF (lastsF s (ee.take i)) (ee.getD i [])) ∧ lastF (lastsF s (ee.take i)) (ee.getD i []) ≤ t
  | [], _, _, _, i, h => absurd h (Nat.not_lt_zero _)
  | x :: r, s, t, h, 0, _ => ⟨Int.le_refl _, h.1, h.2.le⟩
  | x :: r, s, t, h, i + 1, hi => by
    have := ascs_at h.2 i (by simpa using hi)
    have h3 := h.1.le.1
    exact ⟨Int.le_trans h3 this.1, this.2⟩

theorem partsF_eq (k l s : Int) (f : List Nat) (e : List Int) (ee : List (List Int)) (kids : List Geo) : partsF (.mk k l s f e ee kids) = if k = 7 then kids else if k = 6 then partsP l f 0 ee else if k = 4 ∨ k = 5 then partsE (k - 3) l f 0 e else [] := rfl
theorem numPartsF_eq (k l s : Int) (f : List Nat) (e : List Int) (ee : List (List Int)) (kids : List Geo) : numPartsF (.mk k l s f e ee kids) = if k = 3 ∨ k = 4 ∨ k = 5 then e.length else if k = 6 then ee.length else kids.length := rfl
/-- Any part of a good multi or collection. -/
theorem partAny_c (K : Nat) (w : World) (vs : List Value) (k l s : Int) (f : List Nat) (e : List Int) (ee : List (List Int)) (kids : List Geo) (hk : 4 ≤ k ∧ k ≤ 7) (hg : goodF (.mk k l s f e ee kids) = true) (hv : GeoVs K w vs (.mk k l s f e ee kids)) (hK : K ≤ w.heap.size) (i : Nat) (p : Geo) (hp : (partsF (.mk k l s f e ee kids))[i]? = some p) :
    Calls Tryz.prog 15 #[.agg vs.toArray, .int .i64 i] w fun en w' => ∃ us, en = .returned (.agg us.toArray) ∧ PartP (fun b => b < K ∨ (w.heap.size ≤ b ∧ b < w'.heap.size)) w' us p ∧ Below w.heap.size w w' := by
  by_cases h7 : k = 7
  · subst h7
    have hP : partsF (.mk 7 l s f e ee kids) = kids := rfl
    rw [hP] at hp
    obtain ⟨hi, rfl⟩ := List.getElem?_eq_some_iff.1 hp
    refine (part7_c K w vs l s f e ee kids hv hK i hi).mono ?_
    rintro en w' ⟨us, rfl, h1, h2⟩
    exact ⟨us, rfl, h1.mono (fun b hb => Or.inl hb), h2⟩
  · rw [goodF_leaf _ _ _ _ _ _ _ h7] at hg
    unfold goodLeaf at hg
    split at hg
    · simp at hg
    · by_cases h6 : k = 6
      · subst h6
        have hP : partsF (.mk 6 l s f e ee kids) = partsP l f 0 ee := rfl
        rw [hP] at hp
        have hi : i < ee.length := by rw [← partsP_len l f ee 0]; exact (List.getElem?_eq_some_iff.1 hp).1
        simp at hg
        have h1 := (goodEndssF_ascs (strideF l) ee 0 (goodEndssF (strideF l) ee 0 true).1 true (Prod.ext rfl hg.1)).2
        rw [hg.2.1] at h1
        obtain ⟨q1, q2, q3⟩ := ascs_at h1 i hi
        rw [partsP_get l f ee 0 i hi] at hp
        have q4 := q2.le.1
        obtain ⟨a, ha⟩ : ∃ a : Nat, lastsF 0 (ee.take i) = a := ⟨(lastsF 0 (ee.take i)).toNat, by omega⟩
        rw [ha] at hp q2 q3 q4
        obtain ⟨y, hy⟩ : ∃ y : Nat, lastF a (ee.getD i []) = y := ⟨(lastF a (ee.getD i [])).toNat, by omega⟩
        rw [hy] at hp q2 q3
        cases hp
        refine (partP_c K w vs l s f e ee kids hv hK i hi a y (strideF l) ha hy q2 (by omega)).mono ?_
        rintro en w' ⟨us, rfl, h1, h2⟩
        exact ⟨us, rfl, h1.mono (fun b hb => Or.inr hb), h2⟩
      · have h45 : k = 4 ∨ k = 5 := by omega
        have hP : partsF (.mk k l s f e ee kids) = partsE (k - 3) l f 0 e := by
          rw [partsF_eq, if_neg h7, if_neg h6, if_pos h45]
        rw [hP] at hp
        have hi : i < e.length := by rw [← partsE_len (k - 3) l f e 0]; exact (List.getElem?_eq_some_iff.1 hp).1
        have hgk : ∃ single, Asc (strideF l) single 0 e f.length := by
          rcases h45 with rfl | rfl
          · simp at hg
            have := goodEndsF_asc (strideF l) true e 0 (goodEndsF (strideF l) true e 0).1 (Prod.ext rfl hg.1)
            rw [hg.2] at this
            exact ⟨_, this⟩
          · simp at hg
            have := goodEndsF_asc (strideF l) false e 0 (goodEndsF (strideF l) false e 0).1 (Prod.ext rfl hg.1)
            rw [hg.2] at this
            exact ⟨_, this⟩
        obtain ⟨single, hasc⟩ := hgk
        obtain ⟨q1, q2, q3⟩ := asc_at hasc i hi
        rw [partsE_get (k - 3) l f e 0 i hi] at hp
        obtain ⟨a, ha⟩ : ∃ a : Nat, (if i = 0 then (0 : Int) else e.getD (i - 1) 0) = a := ⟨(if i = 0 then (0 : Int) else e.getD (i - 1) 0).toNat, by omega⟩
        obtain ⟨y, hy⟩ : ∃ y : Nat, e.getD i 0 = y := ⟨(e.getD i 0).toNat, by omega⟩
        rw [ha, hy] at hp
        rw [ha] at q2
        rw [hy] at q2 q3
        cases hp
        refine (partE_c K w vs k l s f e ee kids h45 hv hK i hi a y (fun h => by rw [if_pos h] at ha; omega) (fun h => by rw [if_neg (by omega)] at ha; exact ha) hy (by omega) (by omega)).mono ?_
        rintro en w' ⟨us, rfl, h1, h2⟩
        exact ⟨us, rfl, h1.mono (fun b hb => Or.inr hb), h2⟩
theorem numParts_len (k l s : Int) (f : List Nat) (e : List Int) (ee : List (List Int)) (kids : List Geo) (hk : 4 ≤ k ∧ k ≤ 7) : numPartsF (.mk k l s f e ee kids) = (partsF (.mk k l s f e ee kids)).length := by
  rw [numPartsF_eq, partsF_eq]
  by_cases h7 : k = 7
  · rw [if_neg (by omega), if_neg (by omega), if_pos h7]
  · by_cases h6 : k = 6
    · rw [if_neg (by omega), if_pos h6, if_neg h7, if_pos h6, partsP_len]
    · rw [if_pos (by omega), if_neg h7, if_neg h6, if_pos (by omega), partsE_len]
end Go.Proofs.YtfbgnonnbcejkaaGreatDoor
namespace Go.Proofs.YtfbgnonnbcejkaaGreatDoor
open Go.RowKit

theorem info27 : (Tryz.prog.info? 27).map (fun i => (i.zero.map (fun z => z.cells.size), i.size, i.bytes)) = some (some 7, 7, 120) := by kernel_rfl
def G7 (w : World) (v : Value) (b : Nat) : Prop := b < w.heap.size ∧ v.ownBlock ≠ some b
structure Gath7 (base : Nat) (w : World) (v : Value) (l : List Geo) (vss : List (List Value)) : Prop where
  own : w.ownsRow base 27 7 v l.length vss.flatten
  len : vss.length = l.length
  seven : ∀ us ∈ vss, us.length = 7
  part : ∀ (j : Nat) (us : List Value) (p : Geo), vss[j]? = some us → l[j]? = some p → PartP (G7 w v) w us p
theorem flatten_get : ∀ (vss : List (List Value)), (∀ us ∈ vss, us.length = 7) → ∀ (j q : Nat) (us : List Value), vss[j]? = some us → q < 7 → vss.flatten[j * 7 + q]? = us[q]?
  | [], _, j, q, us, h, _ => by simp at h
  | x :: r, h7, 0, q, us, h, hq => by
    simp at h
    subst h
    have := h7 x List.mem_cons_self
    rw [List.flatten_cons, List.getElem?_append_left (by omega)]
    simp
  | x :: r, h7, j + 1, q, us, h, hq => by
    have hx := h7 x List.mem_cons_self
    have := flatten_get r (fun us hu => h7 us (List.mem_cons_of_mem _ hu)) j q us (by simpa using h) hq
    rw [List.flatten_cons, List.getElem?_append_right (by omega), hx, show (j + 1) * 7 + q - 7 = j * 7 + q by omega]
    exact this
theorem PartP.len {S : Nat → Prop} {w : World} {us : List Value} {p : Geo} (h : PartP S w us p) : us.length = 7 := by
  rcases h with ⟨K0, _, h2⟩ | ⟨k, l, f, e, rfl, vf, ve, rfl, _⟩
  · cases p with
    | mk k l s f e ee kids =>
      obtain ⟨vf, ve, vee, vk, rfl, _⟩ := h2
      rfl
  · rfl
theorem PartP.seven {S : Nat → Prop} {w : World} {vs : List Value} {g : Geo} (h : PartP S w vs g) : ∃ (k l s : Int) (a3 a4 a5 a6 : Option Addr) (n3 n4 n5 n6 m3 m4 m5 m6 : Nat),
    vs = [.int .i64 k, .int .i64 l, .int .i64 s, .slice a3 n3 m3, .slice a4 n4 m4, .slice a5 n5 m5, .slice a6 n6 m6] := by
  rcases h with ⟨K0, _, h2⟩ | ⟨k, l, f, e, rfl, vf, ve, rfl, _, _, ⟨a3, c3, rfl, _⟩, ⟨a4, c4, rfl, _⟩⟩
  · exact h2.seven
  · exact ⟨_, _, _, _, _, _, _, _, _, _, _, _, _, _, _, rfl⟩

theorem geosAt_of {N : Nat} {w : World} : ∀ (l : List Geo) (g o : Nat), (∀ j p, l[j]? = some p → ∃ us, CellsAt w g (o + j * 7) us ∧ GeoVs N w us p) → GeosAt N w g o l
  | [], _, _, _ => by simp only [GeosAt]
  | x :: r, g, o, h => by
    refine ⟨?_, geosAt_of r g (o + 7) fun j p hj => ?_⟩
    · have := h 0 x rfl
      simpa using this
    · have := h (j + 1) p (by simpa using hj)
      rw [show o + 7 + j * 7 = o + (j + 1) * 7 by omega]
      exact this
theorem take_succ_kids' (xs : List Geo) (k : Nat) (h : k < xs.length) : xs.take (k + 1) = xs.take k ++ [xs[k]] := by
  rw [List.take_add_one, List.getElem?_eq_getElem h]
  rfl
set_option maxHeartbeats 6400000 in
theorem parts_c (K : Nat) (w : World) (vs : List Value) (k l s : Int) (f : List Nat) (e : List Int) (ee : List (List Int)) (kids : List Geo) (hk : 4 ≤ k ∧ k ≤ 7) (hg : goodF (.mk k l s f e ee kids) = true) (hv : GeoVs K w vs (.mk k l s f e ee kids)) (hK : K ≤ w.heap.size) (hlen : (partsF (.mk k l s f e ee kids)).length ≤ 1048576) :
    Calls Tryz.prog 8 #[.agg vs.toArray] w fun en w' => ∃ ao c b, en = .returned (.slice ao (partsF (.mk k l s f e ee kids)).length c) ∧ (partsF (.mk k l s f e ee kids)).length ≤ c ∧ (0 < (partsF (.mk k l s f e ee kids)).length → ao = some ⟨b, 0, none⟩ ∧ w.heap.size ≤ b ∧ b < w'.heap.size) ∧ GeosAt w'.heap.size w' b 0 (partsF (.mk k l s f e ee kids)) ∧ Below w.heap.size w w' := by
  obtain ⟨q0, q1, q2, b3, b4, b5, b6, n3, n4, n5, n6, m3, m4, m5, m6, rfl⟩ := hv.seven
  have hN := Lib.hid (fun w' (hb : Below w.heap.size w w') => numParts_c K w' _ _ (GeoVs.below (hb.mono hK) _ _ hv))
  have hP := Lib.hid (fun w' (hb : Below w.heap.size w w') (i : Nat) (p : Geo) (hp : (partsF (.mk k l s f e ee kids))[i]? = some p) => partAny_c K w' _ k l s f e ee kids hk hg (GeoVs.below (hb.mono hK) _ _ hv) (Nat.le_trans hK hb.size) i p hp)
  rw [numParts_len k l s f e ee kids hk] at hN
  generalize partsF (.mk k l s f e ee kids) = L at *
  clear hv hg hk
  obtain ⟨i0, hi, hrest⟩ := Option.map_eq_some_iff.1 info27
  obtain ⟨hz0, hz1, hz2⟩ : i0.zero.map (fun z => z.cells.size) = some 7 ∧ i0.size = 7 ∧ i0.bytes = 120 := by simpa using hrest
  obtain ⟨z, hzz, hzs⟩ := Option.map_eq_some_iff.1 hz0
  go_enter Tryz.func8, Tryz.ntmps8
  go_wp2_with (go_at_call 7; refine (hN.out _ (by first | exact (Below.refl _ _).alloc (Nat.le_refl _) _)).mono ?_; rintro e2 w2 ⟨rfl, hb2⟩)
  have hbx : Below w.heap.size w (w.alloc (.cells #[.int .i64 q0, .int .i64 q1, .int .i64 q2, .slice b3 n3 m3, .slice b4 n4 m4, .slice b5 n5 m5, .slice b6 n6 m6] 27)) := (Below.refl _ _).alloc (Nat.le_refl _) _
  have hsx : (w.alloc (.cells #[.int .i64 q0, .int .i64 q1, .int .i64 q2, .slice b3 n3 m3, .slice b4 n4 m4, .slice b5 n5 m5, .slice b6 n6 m6] 27)).heap.size = w.heap.size + 1 := World.size_alloc ..
  have hcx : CellsAt (w.alloc (.cells #[.int .i64 q0, .int .i64 q1, .int .i64 q2, .slice b3 n3 m3, .slice b4 n4 m4, .slice b5 n5 m5, .slice b6 n6 m6] 27)) w.heap.size 0 [.int .i64 q0, .int .i64 q1, .int .i64 q2, .slice b3 n3 m3, .slice b4 n4 m4, .slice b5 n5 m5, .slice b6 n6 m6] := by
    intro j hj
    rw [Nat.zero_add, World.cell?_alloc_new, List.getD_eq_getElem?_getD, List.getElem?_eq_getElem hj]
    simp
  have hb2' : Below (w.heap.size + 1) (w.alloc (.cells #[.int .i64 q0, .int .i64 q1, .int .i64 q2, .slice b3 n3 m3, .slice b4 n4 m4, .slice b5 n5 m5, .slice b6 n6 m6] 27)) w2 := hb2.mono (by rw [World.size_alloc]; omega)
  generalize w.alloc (.cells #[.int .i64 q0, .int .i64 q1, .int .i64 q2, .slice b3 n3 m3, .slice b4 n4 m4, .slice b5 n5 m5, .slice b6 n6 m6] 27) = w1 at *
  have Hcx := Lib.hid hcx
  have Hbx := Lib.hid hbx
  have Hsx := Lib.hid hsx
  have Hb2 := Lib.hid hb2'
  clear hcx hbx hsx hb2 hb2'
  go_loopw [3, 7] (fun u i' wr => ∃ (j : Nat) (vss : List (List Value)), j ≤ L.length ∧ i' = .int .i64 j ∧ Gath7 (w.heap.size + 1) wr u (L.take j) vss ∧ Below (w.heap.size + 1) w1 wr) (fun _ i' _ => L.length - (intOf i').toNat)
  case atStart => exact ⟨0, [], Nat.zero_le _, rfl, ⟨World.ownsRow_nil _ _ _ _, rfl, fun _ h => by simp at h, fun j us p h _ => by simp at h⟩, Hb2.out⟩
  case round =>
    obtain ⟨j, vss, hj, rfl, hga, hb⟩ := hrel
    rename_i u3 _ _
    have hws : w.heap.size + 1 ≤ wr.heap.size := by have := Hsx.out; have := hb.size; omega
    have hgs : ∃ a n c, u3 = .slice a n c := by
      rcases hga.own.2 with ⟨h0, _⟩ | ⟨g, cap, cur, h0, _⟩ <;> exact ⟨_, _, _, h0⟩
    obtain ⟨a3, n3', c3, rfl⟩ := hgs
    by_cases hjl : j < L.length
    · have hcr : CellsAt wr w.heap.size 0 _ := fun j hj => keeps_below_cell hb (Nat.lt_succ_self _) (Hcx.out j hj)
      obtain ⟨x0, x1, x2, x3, x4, x5, x6⟩ := seven_cells hcr
      clear hcr
      have hget : L[j]? = some L[j] := List.getElem?_eq_getElem hjl
      have hC := Lib.hid (hP.out wr (Hbx.out.trans (hb.mono (Nat.le_succ _))) j _ hget)
      have hlt : (L.take j).length = j := by rw [List.length_take]; omega
      have ht : L.take (j + 1) = L.take j ++ [L[j]] := take_succ_kids' L j hjl
      have Ht := Lib.hid ht
      have Hga := Lib.hid hga
      have Hb := Lib.hid hb
      clear ht hga hb hget
      generalize L[j] = p at *
      go_wp2_with (go_at_call 15; refine hC.out.mono ?_)
      try simp only [and_imp, forall_exists_index]
      rintro e4 w4 us rfl hpp hb4
      obtain ⟨y0, y1, y2, c3', c4', c5', c6', d3, d4, d5, d6, g3, g4, g5, g6, rfl⟩ := hpp.seven
      have hown4 := (owns_below Hga.out.own hb4).alloc (.cells #[.int .i64 y0, .int .i64 y1, .int .i64 y2, .slice c3' d3 g3, .slice c4' d4 g4, .slice c5' d5 g5, .slice c6' d6 g6] 27)
      rw [hlt] at hown4
      have hc7 : ∀ q y, ([.int .i64 y0, .int .i64 y1, .int .i64 y2, .slice c3' d3 g3, .slice c4' d4 g4, .slice c5' d5 g5, .slice c6' d6 g6] : List Value)[q]? = some y → (w4.alloc (.cells #[.int .i64 y0, .int .i64 y1, .int .i64 y2, .slice c3' d3 g3, .slice c4' d4 g4, .slice c5' d5 g5, .slice c6' d6 g6] 27)).cell? ((⟨w4.heap.size, 0, none⟩ : Addr).add q) = some y := by
        intro q y hq
        rw [show (⟨w4.heap.size, 0, none⟩ : Addr).add q = ⟨w4.heap.size, q, none⟩ by unfold Addr.add; split <;> simp_all]
        refine newCell ?_
        rw [← hq]
        simp
      have hsz4 := hb4.size
      have hbase : w.heap.size + 1 ≤ (w4.alloc (.cells #[.int .i64 y0, .int .i64 y1, .int .i64 y2, .slice c3' d3 g3, .slice c4' d4 g4, .slice c5' d5 g5, .slice c6' d6 g6] 27)).heap.size := by rw [World.size_alloc]; omega
      have Hpp := Lib.hid hpp
      have Hb4 := Lib.hid hb4
      have Hown4 := Lib.hid hown4
      clear hpp hb4
      go_wp2_with (at_builtin; refine wp_appendX rfl _ _ 25 rfl (w.heap.size + 1) 27 i0 z 7 120 Tryz.underlying25 hi hzz hz1 hz2 hzs (by decide) _ j vss.flatten rfl hown4 ⟨w4.heap.size, 0, none⟩ 1 1 [.int .i64 y0, .int .i64 y1, .int .i64 y2, .slice c3' d3 g3, .slice c4' d4 g4, .slice c5' d5 g5, .slice c6' d6 g6] rfl rfl hc7 ?c1 ?c2 ?c3 hbase ?_)
      case c1 => intro y hy; simp at hy; rcases hy with rfl | rfl | rfl | rfl | rfl | rfl | rfl <;> rfl
      case c2 => unfold maxLen; omega
      case c3 => omega
      intro v' w5 hown5 hgrow ho
      have Hown5 := Lib.hid hown5
      have Hgrow := Lib.hid hgrow
      have Ho := Lib.hid ho
      clear hown5 hgrow ho hown4 hc7
      go_wp2
      go_roundw
      case rel =>
        have hk5 : ∀ b, b < w4.heap.size → (Value.slice a3 n3' c3).ownBlock ≠ some b → w5.heap[b]? = w4.heap[b]? := fun b hb hne => (Hgrow.out.block b (by rw [World.size_alloc]; omega) (fun e => hne e.symm)).trans (Lib.alloc_old _ _ _ hb)
        have hs5 : w4.heap.size + 1 ≤ w5.heap.size := by have := Hgrow.out.size; rw [World.size_alloc] at this; exact this
        have hno : ∀ b, b < w4.heap.size → (Value.slice a3 n3' c3).ownBlock ≠ some b → v'.ownBlock ≠ some b := fun b hb hne => by
          rcases Ho.out with h | h
          · rw [h]; exact hne
          · rw [h]; intro e; simp at e; omega
        have hbig : ∀ q, (Value.slice a3 n3' c3).ownBlock = some q → w.heap.size + 1 ≤ q ∧ q < wr.heap.size := fun q hq => Hga.out.own.lt q hq
        refine ⟨j + 1, vss ++ [[.int .i64 y0, .int .i64 y1, .int .i64 y2, .slice c3' d3 g3, .slice c4' d4 g4, .slice c5' d5 g5, .slice c6' d6 g6]], by omega, by go_num, ?_, ?_⟩
        · rw [Ht.out]
          refine ⟨?_, by rw [List.length_append, List.length_append, Hga.out.len]; rfl, ?_, ?_⟩
          · rw [List.length_append, hlt, List.flatten_append]
            simpa using Hown5.out
          · intro us hu
            rcases List.mem_append.1 hu with hu | hu
            · exact Hga.out.seven us hu
            · simp at hu; subst hu; rfl
          · intro q us pp h1 h2
            have hvl := Hga.out.len
            rw [hlt] at hvl
            rcases Nat.lt_trichotomy q j with hq | hq | hq
            · rw [List.getElem?_append_left (by omega)] at h1 h2
              refine ((Hga.out.part q us pp h1 h2).keep (w' := w5) ?_).mono ?_
              · intro b hb'
                exact (hk5 b (Nat.lt_of_lt_of_le hb'.1 hsz4) hb'.2).trans (Hb4.out.block b hb'.1)
              · intro b hb'
                exact ⟨by have := hb'.1; omega, hno b (by have := hb'.1; omega) hb'.2⟩
            · subst hq
              rw [← hvl, List.getElem?_append_right (Nat.le_refl _), Nat.sub_self] at h1
              rw [List.getElem?_append_right (by omega), hlt, Nat.sub_self] at h2
              cases h1
              cases h2
              have hown_ne : ∀ b, (b < K ∨ (wr.heap.size ≤ b ∧ b < w4.heap.size)) → b < w4.heap.size ∧ (Value.slice a3 n3' c3).ownBlock ≠ some b := fun b hb' => by
                refine ⟨by rcases hb' with h | h <;> omega, fun e => ?_⟩
                have := hbig b e
                rcases hb' with h | h <;> omega
              refine (Hpp.out.keep (w' := w5) ?_).mono ?_
              · intro b hb'
                exact hk5 b (hown_ne b hb').1 (hown_ne b hb').2
              · intro b hb'
                exact ⟨by have := (hown_ne b hb').1; omega, hno b (hown_ne b hb').1 (hown_ne b hb').2⟩
            · rw [List.getElem?_eq_none (by simp; omega)] at h2
              simp at h2
        · exact ((Hb.out.trans (Hb4.out.mono hws)).alloc (by omega) _).grown Hgrow.out hbase (fun q hq => (hbig q hq).1)
      case measure => simp [intOf]; omega
    · have hje : j = L.length := by omega
      rw [hje, List.take_length] at hga
      have hn3 : n3' = L.length := by
        rcases hga.own.2 with ⟨h0, h1⟩ | ⟨g, cap, cur, h0, _⟩
        · cases h0; omega
        · cases h0; rfl
      subst hn3
      have Hga := Lib.hid hga
      have Hfin := Lib.hid (Hbx.out.trans (hb.mono (Nat.le_succ _)))
      clear hga hb hje
      go_wp2
      go_ret
      rcases Nat.eq_zero_or_pos L.length with h0 | h0
      · have hnil : L = [] := List.length_eq_zero_iff.1 h0
        subst hnil
        exact ⟨a3, c3, 0, rfl, Nat.zero_le _, fun hh => absurd hh (by simp), by simp only [GeosAt], Hfin.out⟩
      · rcases Hga.out.own.2 with ⟨_, h1⟩ | ⟨g, cap, cur, h1, hg1, hg2, hg3, hg4, hg5, hg6⟩
        · omega
        · cases h1
          have hgl : g < wr.heap.size := by
            rcases Nat.lt_or_ge g wr.heap.size with h' | h'
            · exact h'
            · simp [Array.getElem?_eq_none h'] at hg2
          refine ⟨_, _, g, rfl, hg3, fun _ => ⟨rfl, by omega, hgl⟩, ?_, Hfin.out⟩
          refine geosAt_of L g 0 fun q pp hq => ?_
          have hql := (List.getElem?_eq_some_iff.1 hq).1
          have hvl := Hga.out.len
          have hus : vss[q]? = some vss[q] := List.getElem?_eq_getElem (by omega)
          have hpq := Hga.out.part q _ pp hus hq
          have h7 := hpq.len
          refine ⟨vss[q], fun r hr => ?_, (hpq.mono (fun b hb => hb.1)).geo⟩
          rw [h7] at hr
          have hfl := flatten_get vss Hga.out.seven q r _ hus hr
          have hcell := World.ownsRow.cellAt (w := wr) ⟨Hga.out.own.1, Or.inr ⟨g, _, cur, rfl, hg1, hg2, hg3, hg4, hg5, hg6⟩⟩ (q * 7 + r) (by omega)
          rw [Nat.zero_add, hcell, hfl, List.getD_eq_getElem?_getD, List.getElem?_eq_getElem (by omega)]
          rfl
end Go.Proofs.YtfbgnonnbcejkaaGreatDoor
