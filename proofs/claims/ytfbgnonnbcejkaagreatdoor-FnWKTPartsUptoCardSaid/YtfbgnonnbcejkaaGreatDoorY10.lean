/- Lemmas on the way to the law FnWKTParts, without conditions beside those that each states: The text of a geometry, and of its parts: plain | The parts are good, and so is the empty one. -/
import Derived.Test.YtfbgnonnbcejkaaGreatDoorY06
namespace Go.Proofs.YtfbgnonnbcejkaaGreatDoor
open Go.RowKit

def EMP : List UInt8 := [69, 77, 80, 84, 89]
/-- Pieces with a comma and a blank between them (ahead of the first, too, where it is not the first). -/
def seqF : Bool → List (List UInt8) → List UInt8
  | _, [] => []
  | first, x :: r => (if first then [] else [44, 32]) ++ (x ++ seqF false r)
def coordF (num : Nat → List UInt8) : Bool → List Nat → List UInt8
  | _, [] => []
  | first, x :: r => (if first then [] else [32]) ++ (num x ++ coordF num false r)
def chunksF (st : Nat) : Nat → List Nat → List (List Nat)
  | 0, _ => []
  | _ + 1, [] => []
  | n + 1, x :: r => (x :: r).take st :: chunksF st n ((x :: r).drop st)
def flat1F (num : Nat → List UInt8) (st : Nat) (flat : List Nat) : List UInt8 := 40 :: (seqF true ((chunksF st flat.length flat).map (coordF num true)) ++ [41])
def cutF (flat : List Nat) (s e : Int) : List Nat := (flat.drop s.toNat).take (e - s).toNat
def pieces1 (num : Nat → List UInt8) (flat : List Nat) : Int → List Int → List (List UInt8)
  | _, [] => []
  | s, e :: r => (if e ≤ s then EMP else coordF num true (cutF flat s e)) :: pieces1 num flat e r
def pieces2 (num : Nat → List UInt8) (st : Nat) (flat : List Nat) : Int → List Int → List (List UInt8)
  | _, [] => []
  | s, e :: r => (if e ≤ s then EMP else flat1F num st (cutF flat s e)) :: pieces2 num st flat e r
def flat2F (num : Nat → List UInt8) (st : Nat) (flat : List Nat) (s : Int) (e : List Int) : List UInt8 := 40 :: (seqF true (pieces2 num st flat s e) ++ [41])
def lastF (s : Int) : List Int → Int
  | [] => s
  | e :: r => lastF e r
def pieces3 (num : Nat → List UInt8) (st : Nat) (flat : List Nat) : Int → List (List Int) → List (List UInt8)
  | _, [] => []
  | s, x :: r => (if x = [] then EMP else flat2F num st flat s x) :: pieces3 num st flat (lastF s x) r
def kwF (k : Int) : List UInt8 :=
  if k = 1 then [80, 79, 73, 78, 84, 32] else if k = 2 ∨ k = 8 then [76, 73, 78, 69, 83, 84, 82, 73, 78, 71, 32] else if k = 3 then [80, 79, 76, 89, 71, 79, 78, 32]
  else if k = 4 then [77, 85, 76, 84, 73, 80, 79, 73, 78, 84, 32] else if k = 5 then [77, 85, 76, 84, 73, 76, 73, 78, 69, 83, 84, 82, 73, 78, 71, 32]
  else if k = 6 then [77, 85, 76, 84, 73, 80, 79, 76, 89, 71, 79, 78, 32] else [71, 69, 79, 77, 69, 84, 82, 89, 67, 79, 76, 76, 69, 67, 84, 73, 79, 78, 32]
def laF (l : Int) : List UInt8 := if l = 2 then [90, 32] else if l = 3 then [77, 32] else if l = 4 then [90, 77, 32] else []
def leafF (num : Nat → List UInt8) (k l : Int) (f : List Nat) (e : List Int) (ee : List (List Int)) : List UInt8 :=
  if k = 1 then (if f = [] then EMP else 40 :: (coordF num true f ++ [41]))
  else if k = 2 ∨ k = 8 then (if f = [] then EMP else flat1F num (strideF l).toNat f)
  else if k = 3 then (if f = [] then EMP else flat2F num (strideF l).toNat f 0 e)
  else if k = 4 then (if e = [] then EMP else 40 :: (seqF true (pieces1 num f 0 e) ++ [41]))
  else if k = 5 then (if e = [] then EMP else flat2F num (strideF l).toNat f 0 e)
  else (if ee = [] then EMP else 40 :: (seqF true (pieces3 num (strideF l).toNat f 0 ee) ++ [41]))
mutual
def textF (num : Nat → List UInt8) : Geo → List UInt8
  | .mk k l s f e ee kids => kwF k ++ (laF (layoutOfF (.mk k l s f e ee kids)) ++
      (if k = 7 then (if kids = [] then EMP else 40 :: (seqF true (textAll num kids) ++ [41])) else leafF num k l f e ee))
def textAll (num : Nat → List UInt8) : List Geo → List (List UInt8)
  | [] => []
  | g :: r => textF num g :: textAll num r
end
/-- The parts. -/
def partsE (k l : Int) (flat : List Nat) : Int → List Int → List Geo
  | _, [] => []
  | s, e :: r => .mk k l 0 (cutF flat s e) [] [] [] :: partsE k l flat e r
def partsP (l : Int) (flat : List Nat) : Int → List (List Int) → List Geo
  | _, [] => []
  | s, x :: r => .mk 3 l 0 (cutF flat s (lastF s x)) (x.map (· - s)) [] [] :: partsP l flat (lastF s x) r
def partsF : Geo → List Geo
  | .mk k l _ f e ee kids => if k = 7 then kids else if k = 6 then partsP l f 0 ee else if k = 4 ∨ k = 5 then partsE (k - 3) l f 0 e else []
/-- From the first bracket on, or EMPTY. -/
def behindF : List UInt8 → List UInt8
  | [] => EMP
  | c :: r => if c = 40 then c :: r else behindF r
def pieceF (num : Nat → List UInt8) (k : Int) (p : Geo) : List UInt8 :=
  if k = 7 then textF num p
  else if k = 4 ∧ (behindF (textF num p)).head? = some 40 then ((behindF (textF num p)).drop 1).dropLast else behindF (textF num p)

theorem kwF_no (k : Int) : (40 : UInt8) ∉ kwF k := by
  unfold kwF
  repeat' split
  all_goals decide
theorem laF_no (l : Int) : (40 : UInt8) ∉ laF l := by
  unfold laF
  repeat' split
  all_goals decide
theorem behindF_skip : ∀ (a b : List UInt8), (40 : UInt8) ∉ a → behindF (a ++ b) = behindF b
  | [], b, _ => rfl
  | c :: r, b, h => by
    have h1 : c ≠ 40 := fun e => h (by simp [e])
    have h2 : (40 : UInt8) ∉ r := fun e => h (by simp [e])
    simp only [List.cons_append, behindF, if_neg h1]
    exact behindF_skip r b h2
theorem behindF_emp : behindF EMP = EMP := by decide
theorem layoutOfF_leaf (k l s : Int) (f e ee kids) (h : k ≠ 7) : layoutOfF (.mk k l s f e ee kids) = l := by rw [layoutOfF, if_pos (Or.inl h)]
theorem textF_leaf (num : Nat → List UInt8) (k l s : Int) (f e ee kids) (h : k ≠ 7) : textF num (.mk k l s f e ee kids) = kwF k ++ (laF l ++ leafF num k l f e ee) := by
  rw [textF, layoutOfF_leaf _ _ _ _ _ _ _ h, if_neg h]
theorem behindF_textF (num : Nat → List UInt8) (k l s : Int) (f e ee kids) (h : k ≠ 7) : behindF (textF num (.mk k l s f e ee kids)) = behindF (leafF num k l f e ee) := by
  rw [textF_leaf _ _ _ _ _ _ _ _ h, behindF_skip _ _ (kwF_no k), behindF_skip _ _ (laF_no l)]

/-- Ends that ascend. -/
def Asc (st : Int) (single : Bool) : Int → List Int → Int → Prop
  | s, [], t => s = t
  | s, e :: r, t => (s ≤ e ∧ (e - s) % st = 0 ∧ (single = true → e - s ≤ st)) ∧ Asc st single e r t
theorem goodEndsF_asc (st : Int) (single : Bool) : ∀ (e : List Int) (s t : Int), goodEndsF st single e s = (t, true) → Asc st single s e t
  | [], s, t, h => by
    simp [goodEndsF] at h
    exact h
  | x :: r, s, t, h => by
    unfold goodEndsF at h
    split at h
    · simp at h
    · rename_i hn
      refine ⟨⟨?_, ?_, ?_⟩, goodEndsF_asc st single r x t h⟩
      · exact Int.not_lt.1 fun h => hn (Or.inl h)
      · exact Decidable.byContradiction fun h => hn (Or.inr (Or.inl h))
      · exact fun h1 => Int.not_lt.1 fun h2 => hn (Or.inr (Or.inr ⟨h1, h2⟩))
theorem Asc.le {st : Int} {single : Bool} : ∀ {e : List Int} {s t : Int}, Asc st single s e t → s ≤ t ∧ (t - s) % st = 0 ∧ lastF s e = t
  | [], s, t, h => by
    have h : s = t := h
    subst h
    simp [lastF]
  | x :: r, s, t, h => by
    obtain ⟨⟨h1, h2, h3⟩, h4⟩ := h
    have h5 := Asc.le h4
    refine ⟨by omega, ?_, h5.2.2⟩
    rw [show t - s = (t - x) + (x - s) by omega]
    have := Int.add_emod (t - x) (x - s) st
    rw [h5.2.1, h2] at this
    simpa using this
theorem cutF_len (flat : List Nat) (s e : Int) (h0 : 0 ≤ s) (h1 : s ≤ e) (h2 : e ≤ flat.length) : ((cutF flat s e).length : Int) = e - s := by
  unfold cutF
  rw [List.length_take, List.length_drop]
  omega
theorem cutF_nil (flat : List Nat) (s e : Int) (h0 : 0 ≤ s) (h2 : e ≤ flat.length) : cutF flat s e = [] ↔ e ≤ s := by
  rw [← List.length_eq_zero_iff]
  unfold cutF
  rw [List.length_take, List.length_drop]
  omega
theorem cutF_cut (flat : List Nat) (s t a b : Int) (h0 : 0 ≤ s) (h1 : 0 ≤ a) (h2 : b ≤ t - s) : cutF (cutF flat s t) a b = cutF flat (s + a) (s + b) := by
  unfold cutF
  rw [List.drop_take, List.drop_drop, List.take_take]
  rw [show (s + a).toNat = s.toNat + a.toNat by omega]
  congr 1
  omega

/-- MultiPoint. -/
theorem pieces1_parts (num : Nat → List UInt8) (l : Int) (flat : List Nat) (st : Int) : ∀ (e : List Int) (s t : Int), Asc st true s e t → 0 ≤ s → t ≤ flat.length →
    (partsE 1 l flat s e).map (pieceF num 4) = pieces1 num flat s e
  | [], _, _, _, _, _ => rfl
  | x :: r, s, t, h, h0, ht => by
    obtain ⟨⟨h1, h2, h3⟩, h4⟩ := h
    have h5 := h4.le
    simp only [partsE, List.map_cons, pieces1]
    rw [pieces1_parts num l flat st r x t h4 (by omega) ht]
    congr 1
    unfold pieceF
    rw [if_neg (by decide), behindF_textF _ _ _ _ _ _ _ _ (by decide)]
    have hleaf : leafF num 1 l (cutF flat s x) [] [] = if x ≤ s then EMP else 40 :: (coordF num true (cutF flat s x) ++ [41]) := by
      unfold leafF
      rw [if_pos rfl]
      by_cases hx : x ≤ s
      · rw [if_pos hx, if_pos ((cutF_nil flat s x h0 (by omega)).2 hx)]
      · rw [if_neg hx, if_neg (fun hh => hx ((cutF_nil flat s x h0 (by omega)).1 hh))]
    rw [hleaf]
    by_cases hx : x ≤ s
    · rw [if_pos hx, if_pos hx, behindF_emp]
      exact if_neg (by decide)
    · rw [if_neg hx, if_neg hx]
      simp [behindF]
theorem pieces2_parts (num : Nat → List UInt8) (l : Int) (flat : List Nat) (st : Int) : ∀ (e : List Int) (s t : Int), Asc st false s e t → 0 ≤ s → t ≤ flat.length →
    (partsE 2 l flat s e).map (pieceF num 5) = pieces2 num (strideF l).toNat flat s e
  | [], _, _, _, _, _ => rfl
  | x :: r, s, t, h, h0, ht => by
    obtain ⟨⟨h1, h2, h3⟩, h4⟩ := h
    have h5 := h4.le
    simp only [partsE, List.map_cons, pieces2]
    rw [pieces2_parts num l flat st r x t h4 (by omega) ht]
    congr 1
    unfold pieceF
    rw [if_neg (by decide), if_neg (fun h => absurd h.1 (by decide)), behindF_textF _ _ _ _ _ _ _ _ (by decide)]
    unfold leafF
    rw [if_neg (by decide), if_pos (Or.inl rfl)]
    by_cases hx : x ≤ s
    · rw [if_pos hx, if_pos ((cutF_nil flat s x h0 (by omega)).2 hx), behindF_emp]
    · rw [if_neg hx, if_neg (fun hh => hx ((cutF_nil flat s x h0 (by omega)).1 hh))]
      simp [flat1F, behindF]
theorem pieces2_shift (num : Nat → List UInt8) (n : Nat) (flat : List Nat) (st : Int) (o t : Int) (ho : 0 ≤ o) : ∀ (e : List Int) (s u : Int), Asc st false s e u → o ≤ s → u ≤ t →
    pieces2 num n (cutF flat o t) (s - o) (e.map (· - o)) = pieces2 num n flat s e
  | [], _, _, _, _, _ => rfl
  | x :: r, s, u, h, h0, hu => by
    obtain ⟨⟨h1, h2, h3⟩, h4⟩ := h
    have h5 := h4.le
    simp only [List.map_cons, pieces2]
    rw [pieces2_shift num n flat st o t ho r x u h4 (by omega) hu]
    congr 1
    by_cases hx : x ≤ s
    · rw [if_pos hx, if_pos (by omega)]
    · rw [if_neg hx, if_neg (by omega), cutF_cut flat o t (s - o) (x - o) ho (by omega) (by omega)]
      rw [show o + (s - o) = s by omega, show o + (x - o) = x by omega]
/-- Rows of ends that ascend. -/
def Ascs (st : Int) : Int → List (List Int) → Int → Prop
  | s, [], t => s = t
  | s, x :: r, t => Asc st false s x (lastF s x) ∧ Ascs st (lastF s x) r t
theorem goodEndssF_ascs (st : Int) : ∀ (ee : List (List Int)) (s t : Int) (ok : Bool), goodEndssF st ee s ok = (t, true) → ok = true ∧ Ascs st s ee t
  | [], s, t, ok, h => by
    simp [goodEndssF] at h
    exact ⟨h.2, h.1⟩
  | x :: r, s, t, ok, h => by
    unfold goodEndssF at h
    obtain ⟨h1, h2⟩ := goodEndssF_ascs st r _ t _ h
    simp at h1
    have h3 := goodEndsF_asc st false x s (goodEndsF st false x s).1 (Prod.ext rfl h1.2)
    have h4 := h3.le.2.2
    refine ⟨h1.1, ?_⟩
    unfold Ascs
    rw [h4]
    exact ⟨h3, h2⟩
theorem Ascs.le {st : Int} : ∀ {ee : List (List Int)} {s t : Int}, Ascs st s ee t → s ≤ t
  | [], s, t, h => Int.le_of_eq h
  | x :: r, s, t, h => by
    have h1 := h.1.le
    have h2 := Ascs.le h.2
    omega
theorem pieces3_parts (num : Nat → List UInt8) (l : Int) (flat : List Nat) (st : Int) : ∀ (ee : List (List Int)) (s t : Int), Ascs st s ee t → 0 ≤ s → t ≤ flat.length →
    (∀ p ∈ partsP l flat s ee, ¬ (p.flat = [] ∧ p.ends ≠ [])) → (partsP l flat s ee).map (pieceF num 6) = pieces3 num (strideF l).toNat flat s ee
  | [], _, _, _, _, _, _ => rfl
  | x :: r, s, t, h, h0, ht, hp => by
    obtain ⟨h1, h4⟩ := h
    have h5 := h4.le
    have h6 := h1.le
    simp only [partsP, List.map_cons, pieces3]
    rw [pieces3_parts num l flat st r _ t h4 (by omega) ht (fun p hh => hp p (by simp [partsP, hh]))]
    have h7 := hp _ (by simp only [partsP]; exact List.mem_cons_self)
    simp only [Geo.flat, Geo.ends] at h7
    congr 1
    unfold pieceF
    rw [if_neg (by decide), if_neg (fun h => absurd h.1 (by decide)), behindF_textF _ _ _ _ _ _ _ _ (by decide)]
    unfold leafF
    rw [if_neg (by decide), if_neg (by decide), if_pos rfl]
    by_cases hx : x = []
    · subst hx
      rw [if_pos rfl, if_pos ((cutF_nil flat s _ h0 (by simp [lastF] at *; omega)).2 (by simp [lastF])), behindF_emp]
    · rw [if_neg hx, if_neg (fun hh => h7 ⟨hh, by simpa using hx⟩)]
      have := pieces2_shift num (strideF l).toNat flat st s (lastF s x) h0 x s _ h1 (Int.le_refl _) (Int.le_refl _)
      rw [show s - s = 0 by omega] at this
      unfold flat2F
      rw [this]
      simp [behindF]
theorem textAll_map (num : Nat → List UInt8) : ∀ (l : List Geo), textAll num l = l.map (textF num)
  | [] => by simp [textAll]
  | g :: r => by simp [textAll, textAll_map num r]

theorem goodF_leaf (k l s : Int) (f e ee kids) (h : k ≠ 7) : goodF (.mk k l s f e ee kids) = goodLeaf k l f.length e ee kids.length := by rw [goodF, if_neg h]

/-- A multi's or a collection's text is its name and its parts in brackets. -/
theorem law_text (num : Nat → List UInt8) (k l s : Int) (f : List Nat) (e : List Int) (ee : List (List Int)) (kids : List Geo) (hk : 4 ≤ k ∧ k ≤ 7)
    (hg : goodF (.mk k l s f e ee kids) = true) (hn : partsF (.mk k l s f e ee kids) ≠ []) (hp : k = 6 → ∀ p ∈ partsF (.mk k l s f e ee kids), ¬ (p.flat = [] ∧ p.ends ≠ [])) :
    textF num (.mk k l s f e ee kids) = kwF k ++ (laF (layoutOfF (.mk k l s f e ee kids)) ++ (40 :: (seqF true ((partsF (.mk k l s f e ee kids)).map (pieceF num k)) ++ [41]))) := by
  obtain ⟨hk0, hk1⟩ := hk
  by_cases h7 : k = 7
  · subst h7
    have hP : partsF (.mk 7 l s f e ee kids) = kids := rfl
    rw [hP] at hn ⊢
    rw [textF, if_pos rfl, if_neg hn, textAll_map]
    rfl
  · rw [textF_leaf _ _ _ _ _ _ _ _ h7, layoutOfF_leaf _ _ _ _ _ _ _ h7]
    rw [goodF_leaf _ _ _ _ _ _ _ h7] at hg
    unfold goodLeaf at hg
    congr 2
    split at hg
    · simp at hg
    · by_cases h6 : k = 6
      · subst h6
        have hP : partsF (.mk 6 l s f e ee kids) = partsP l f 0 ee := rfl
        have hL : leafF num 6 l f e ee = if ee = [] then EMP else 40 :: (seqF true (pieces3 num (strideF l).toNat f 0 ee) ++ [41]) := rfl
        rw [hP] at hn hp ⊢
        simp at hg
        have h1 := (goodEndssF_ascs (strideF l) ee 0 (goodEndssF (strideF l) ee 0 true).1 true (Prod.ext rfl hg.1)).2
        rw [hg.2.1] at h1
        rw [hL, if_neg (by rintro rfl; exact hn rfl), pieces3_parts num l f (strideF l) ee 0 _ h1 (by omega) (by omega) (hp rfl)]
      · by_cases h5 : k = 5
        · subst h5
          have hP : partsF (.mk 5 l s f e ee kids) = partsE 2 l f 0 e := rfl
          have hL : leafF num 5 l f e ee = if e = [] then EMP else flat2F num (strideF l).toNat f 0 e := rfl
          rw [hP] at hn ⊢
          simp at hg
          have h1 := goodEndsF_asc (strideF l) false e 0 (goodEndsF (strideF l) false e 0).1 (Prod.ext rfl hg.1)
          rw [hg.2] at h1
          rw [hL, if_neg (by rintro rfl; exact hn rfl), pieces2_parts num l f (strideF l) e 0 _ h1 (by omega) (by omega)]
          rfl
        · have h4 : k = 4 := by omega
          subst h4
          have hP : partsF (.mk 4 l s f e ee kids) = partsE 1 l f 0 e := rfl
          have hL : leafF num 4 l f e ee = if e = [] then EMP else 40 :: (seqF true (pieces1 num f 0 e) ++ [41]) := rfl
          rw [hP] at hn ⊢
          simp at hg
          have h1 := goodEndsF_asc (strideF l) true e 0 (goodEndsF (strideF l) true e 0).1 (Prod.ext rfl hg.1)
          rw [hg.2] at h1
          rw [hL, if_neg (by rintro rfl; exact hn rfl), pieces1_parts num l f (strideF l) e 0 _ h1 (by omega) (by omega)]
end Go.Proofs.YtfbgnonnbcejkaaGreatDoor
namespace Go.Proofs.YtfbgnonnbcejkaaGreatDoor
open Go.RowKit

theorem asc_goodEndsF (st : Int) (single : Bool) : ∀ (e : List Int) (s t : Int), Asc st single s e t → goodEndsF st single e s = (t, true)
  | [], s, t, h => by
    have h : s = t := h
    subst h
    rfl
  | x :: r, s, t, h => by
    obtain ⟨⟨h1, h2, h3⟩, h4⟩ := h
    unfold goodEndsF
    rw [if_neg, asc_goodEndsF st single r x t h4]
    rintro (h | h | ⟨h, h'⟩)
    · omega
    · exact h h2
    · have := h3 h
      omega
theorem Asc.shift {st : Int} {single : Bool} (o : Int) : ∀ {e : List Int} {s t : Int}, Asc st single s e t → Asc st single (s - o) (e.map (· - o)) (t - o)
  | [], s, t, h => by
    have h : s = t := h
    subst h
    rfl
  | x :: r, s, t, h => by
    obtain ⟨⟨h1, h2, h3⟩, h4⟩ := h
    have e1 : x - o - (s - o) = x - s := by omega
    exact ⟨⟨show s - o ≤ x - o by omega, by show (x - o - (s - o)) % st = 0; rw [e1]; exact h2, fun h => by show x - o - (s - o) ≤ st; have := h3 h; omega⟩, h4.shift o⟩
theorem gLayF_leaf (m k l s : Int) (f e ee) : gLayF m (.mk k l s f e ee []) = (decide (l ≤ m) && (decide (1 ≤ l) || (decide (k = 7) && decide (0 ≤ l)))) := by
  rw [gLayF]
  simp [gLayAll]
mutual
theorem layoutOfF_range (m : Int) (hm : 4 ≤ m) : ∀ g : Geo, gLayF m g = true → 0 ≤ layoutOfF g ∧ layoutOfF g ≤ m
  | .mk k l s f e ee kids, h => by
    rw [gLayF] at h
    simp at h
    unfold layoutOfF
    split
    · omega
    · refine coverAll_range m hm kids l (by omega) (by omega) h.1
theorem coverAll_range (m : Int) (hm : 4 ≤ m) : ∀ (l : List Geo) (a : Int), 0 ≤ a → a ≤ m → gLayAll m l = true → 0 ≤ coverAll a l ∧ coverAll a l ≤ m
  | [], a, h0, h1, _ => by unfold coverAll; exact ⟨h0, h1⟩
  | g :: r, a, h0, h1, h => by
    rw [gLayAll] at h
    simp at h
    have h2 := layoutOfF_range m hm g h.1
    unfold coverAll
    have h3 : 0 ≤ coverF a (layoutOfF g) ∧ coverF a (layoutOfF g) ≤ m := by
      unfold coverF
      repeat' split
      all_goals omega
    exact coverAll_range m hm r _ h3.1 h3.2 h.2
end
theorem goodAll_mem (l : Int) : ∀ (kids : List Geo), goodAll l kids = true → ∀ p ∈ kids, goodF p = true ∧ (l = 0 ∨ layoutOfF p = l)
  | [], _, p, hp => by simp at hp
  | g :: r, h, p, hp => by
    rw [goodAll] at h
    simp at h
    rcases List.mem_cons.1 hp with rfl | hp
    · exact h.1
    · exact goodAll_mem l r h.2 p hp
theorem gLayAll_mem (m : Int) : ∀ (kids : List Geo), gLayAll m kids = true → ∀ p ∈ kids, gLayF m p = true
  | [], _, p, hp => by simp at hp
  | g :: r, h, p, hp => by
    rw [gLayAll] at h
    simp at h
    rcases List.mem_cons.1 hp with rfl | hp
    · exact h.1
    · exact gLayAll_mem m r h.2 p hp
theorem geosW_mem : ∀ (kids : List Geo), ∀ p ∈ kids, geoW p ≤ geosW kids
  | [], p, hp => by simp at hp
  | g :: r, p, hp => by
    unfold geosW
    rcases List.mem_cons.1 hp with rfl | hp
    · omega
    · have := geosW_mem r p hp
      omega
theorem geoW_leaf (k l s : Int) (f e) : geoW (.mk k l s f e [] []) = 1 + f.length + e.length := by
  unfold geoW
  simp [endssW, geosW]
theorem cutF_le (flat : List Nat) (s e : Int) : (cutF flat s e).length ≤ flat.length := by
  unfold cutF
  rw [List.length_take, List.length_drop]
  omega
theorem partsE_good (kd l : Int) (flat : List Nat) (st : Int) (hst : st = strideF l) (single : Bool) (hk : kd = 1 ∧ single = true ∨ kd = 2) (hs0 : strideF l ≠ 0) (m : Int) (hl : gLayF m (.mk kd l 0 [] [] [] []) = true) :
    ∀ (e : List Int) (s t : Int), Asc st single s e t → 0 ≤ s → t ≤ flat.length → ∀ p ∈ partsE kd l flat s e, goodF p = true ∧ gLayF m p = true ∧ geoW p ≤ 1 + flat.length
  | [], _, _, _, _, _, p, hp => by simp [partsE] at hp
  | x :: r, s, t, h, h0, ht, p, hp => by
    obtain ⟨⟨h1, h2, h3⟩, h4⟩ := h
    have h5 := h4.le
    rcases List.mem_cons.1 hp with rfl | hp
    · have hlen := cutF_len flat s x h0 h1 (by omega)
      refine ⟨?_, by rw [gLayF_leaf] at hl ⊢; exact hl, by rw [geoW_leaf]; have := cutF_le flat s x; simp; omega⟩
      rw [goodF_leaf _ _ _ _ _ _ _ (by rcases hk with ⟨rfl, _⟩ | rfl <;> decide)]
      unfold goodLeaf
      rw [hlen, ← hst, if_neg (by rw [hst] at h2 ⊢; simp [hs0, h2])]
      rcases hk with ⟨rfl, h6⟩ | rfl
      · rw [if_pos rfl]
        simp [h3 h6]
      · rfl
    · exact partsE_good kd l flat st hst single hk hs0 m hl r x t h4 (by omega) ht p hp
theorem partsP_good (l : Int) (flat : List Nat) (st : Int) (hst : st = strideF l) (hs0 : strideF l ≠ 0) (m : Int) (hl : gLayF m (.mk 3 l 0 [] [] [] []) = true) :
    ∀ (ee : List (List Int)) (s t : Int), Ascs st s ee t → 0 ≤ s → t ≤ flat.length → ∀ p ∈ partsP l flat s ee, goodF p = true ∧ gLayF m p = true ∧ geoW p ≤ 1 + flat.length + endssW ee
  | [], _, _, _, _, _, p, hp => by simp [partsP] at hp
  | x :: r, s, t, h, h0, ht, p, hp => by
    obtain ⟨h1, h4⟩ := h
    have h5 := h4.le
    have h6 := h1.le
    rcases List.mem_cons.1 hp with rfl | hp
    · have hlen := cutF_len flat s (lastF s x) h0 h6.1 (by omega)
      refine ⟨?_, by rw [gLayF_leaf] at hl ⊢; exact hl, by rw [geoW_leaf]; have := cutF_le flat s (lastF s x); simp [endssW]; omega⟩
      rw [goodF_leaf _ _ _ _ _ _ _ (by decide)]
      unfold goodLeaf
      have h7 := asc_goodEndsF st false _ _ _ (h1.shift s)
      rw [show s - s = 0 by omega] at h7
      rw [hlen, ← hst, if_neg (by rw [hst] at h6 ⊢; simp [hs0, h6.2.1]), if_neg (by decide), if_neg (by decide), if_pos (by decide), show decide ((3 : Int) = 4) = false by decide, h7]
      simp
    · have := partsP_good l flat st hst hs0 m hl r _ t h4 (by omega) ht p hp
      refine ⟨this.1, this.2.1, ?_⟩
      simp only [endssW]
      omega
/-- The parts of good data are good. -/
theorem parts_good (m k l s : Int) (f : List Nat) (e : List Int) (ee : List (List Int)) (kids : List Geo) (hk : 4 ≤ k ∧ k ≤ 7) (hg : goodF (.mk k l s f e ee kids) = true) (hl : gLayF m (.mk k l s f e ee kids) = true) :
    ∀ p ∈ partsF (.mk k l s f e ee kids), goodF p = true ∧ gLayF m p = true ∧ geoW p ≤ geoW (.mk k l s f e ee kids) := by
  intro p hp
  have hW : geoW (.mk k l s f e ee kids) = 1 + f.length + e.length + endssW ee + geosW kids := by rw [geoW]
  by_cases h7 : k = 7
  · subst h7
    have hP : partsF (.mk 7 l s f e ee kids) = kids := rfl
    rw [hP] at hp
    rw [goodF, if_pos rfl] at hg
    rw [gLayF] at hl
    simp at hg hl
    exact ⟨(goodAll_mem l kids hg.1 p hp).1, gLayAll_mem m kids hl.1 p hp, by rw [hW]; have := geosW_mem kids p hp; omega⟩
  · rw [goodF_leaf _ _ _ _ _ _ _ h7] at hg
    rw [gLayF] at hl
    have hl2 : l ≤ m ∧ 1 ≤ l := by
      simp [h7] at hl
      exact hl.2
    have hl3 : ∀ kd : Int, gLayF m (.mk kd l 0 [] [] [] []) = true := fun kd => by
      rw [gLayF_leaf]
      simp [hl2]
    unfold goodLeaf at hg
    split at hg
    · simp at hg
    · rename_i hn
      have hs0 : strideF l ≠ 0 := fun hh => hn (Or.inl hh)
      by_cases h6 : k = 6
      · subst h6
        have hP : partsF (.mk 6 l s f e ee kids) = partsP l f 0 ee := rfl
        rw [hP] at hp
        simp at hg
        have h1 := (goodEndssF_ascs (strideF l) ee 0 (goodEndssF (strideF l) ee 0 true).1 true (Prod.ext rfl hg.1)).2
        rw [hg.2.1] at h1
        have := partsP_good l f (strideF l) rfl hs0 m (hl3 3) ee 0 _ h1 (by omega) (by omega) p hp
        exact ⟨this.1, this.2.1, by omega⟩
      · by_cases h5 : k = 5
        · subst h5
          have hP : partsF (.mk 5 l s f e ee kids) = partsE 2 l f 0 e := rfl
          rw [hP] at hp
          simp at hg
          have h1 := goodEndsF_asc (strideF l) false e 0 (goodEndsF (strideF l) false e 0).1 (Prod.ext rfl hg.1)
          rw [hg.2] at h1
          have := partsE_good 2 l f (strideF l) rfl false (Or.inr rfl) hs0 m (hl3 2) e 0 _ h1 (by omega) (by omega) p hp
          exact ⟨this.1, this.2.1, by omega⟩
        · have h4 : k = 4 := by omega
          subst h4
          have hP : partsF (.mk 4 l s f e ee kids) = partsE 1 l f 0 e := rfl
          rw [hP] at hp
          simp at hg
          have h1 := goodEndsF_asc (strideF l) true e 0 (goodEndsF (strideF l) true e 0).1 (Prod.ext rfl hg.1)
          rw [hg.2] at h1
          have := partsE_good 1 l f (strideF l) rfl true (Or.inl ⟨rfl, rfl⟩) hs0 m (hl3 1) e 0 _ h1 (by omega) (by omega) p hp
          exact ⟨this.1, this.2.1, by omega⟩
/-- The layout of the empty one. -/
def emptyL (k l s : Int) (f : List Nat) (e : List Int) (ee : List (List Int)) (kids : List Geo) : Int := if k = 7 then layoutOfF (.mk k l s f e ee kids) else l
theorem empty_good (k l s : Int) (f : List Nat) (e : List Int) (ee : List (List Int)) (kids : List Geo) (hk : 4 ≤ k ∧ k ≤ 7) (hg : goodF (.mk k l s f e ee kids) = true) (hl : gLayF 4 (.mk k l s f e ee kids) = true) :
    goodF (.mk k (emptyL k l s f e ee kids) 0 [] [] [] []) = true ∧ gLayF 4 (.mk k (emptyL k l s f e ee kids) 0 [] [] [] []) = true := by
  have hr := layoutOfF_range 4 (by omega) _ hl
  rw [gLayF_leaf]
  unfold emptyL
  by_cases h7 : k = 7
  · subst h7
    rw [if_pos rfl, goodF, if_pos rfl]
    simp [goodAll, hr]
  · rw [if_neg h7]
    rw [goodF_leaf _ _ _ _ _ _ _ h7] at hg ⊢
    rw [gLayF] at hl
    have hl2 : l ≤ 4 ∧ 1 ≤ l := by
      simp [h7] at hl
      exact hl.2
    refine ⟨?_, by simp [hl2]⟩
    unfold goodLeaf at hg ⊢
    split at hg
    · simp at hg
    · rename_i hn
      have hs0 : strideF l ≠ 0 := fun hh => hn (Or.inl hh)
      rw [if_neg (by simp [hs0]), if_neg (by omega), if_neg (by omega)]
      by_cases h6 : k = 6
      · subst h6
        rfl
      · rw [if_pos (by omega)]
        rfl
theorem empty_text (num : Nat → List UInt8) (k l s : Int) (f : List Nat) (e : List Int) (ee : List (List Int)) (kids : List Geo) (hk : 4 ≤ k ∧ k ≤ 7) :
    textF num (.mk k (emptyL k l s f e ee kids) 0 [] [] [] []) = (kwF k ++ laF (layoutOfF (.mk k l s f e ee kids))) ++ EMP := by
  unfold emptyL
  by_cases h7 : k = 7
  · subst h7
    rw [textF, if_pos rfl, if_pos rfl, if_pos rfl]
    have : ∀ l' : Int, layoutOfF (.mk 7 l' 0 [] [] [] []) = l' := fun l' => by
      unfold layoutOfF
      simp [coverAll]
    rw [this, List.append_assoc]
  · rw [if_neg h7, textF_leaf _ _ _ _ _ _ _ _ h7, layoutOfF_leaf _ _ _ _ _ _ _ h7, List.append_assoc]
    congr 2
    unfold leafF
    rw [if_neg (by omega), if_neg (by omega), if_neg (by omega)]
    repeat' split
    all_goals simp at *
end Go.Proofs.YtfbgnonnbcejkaaGreatDoor
