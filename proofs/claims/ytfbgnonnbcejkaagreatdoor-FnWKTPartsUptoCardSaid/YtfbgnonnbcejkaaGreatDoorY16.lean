/- Lemmas on the way to the law FnWKTParts, without conditions beside those that each states: The parts in memory. -/
import Derived.Test.YtfbgnonnbcejkaaGreatDoorY08
import Derived.Test.YtfbgnonnbcejkaaGreatDoorY13
import Derived.Test.YtfbgnonnbcejkaaGreatDoorY10
namespace Go.Proofs.YtfbgnonnbcejkaaGreatDoor
open Go.RowKit

theorem IntsAt.keepK {K : Nat} {w w' : World} {v : Value} {xs : List Int} (h : IntsAt K w v xs) (hb : Keeps (· < K) w w') : IntsAt K w' v xs := by
  obtain ⟨ao, c, h1, h2, h3⟩ := h
  refine ⟨ao, c, h1, h2, fun hn => ?_⟩
  obtain ⟨b, o, h4, h5, h6⟩ := h3 hn
  exact ⟨b, o, h4, h5, fun j hj => ⟨hb.cell h5 (h6 j hj).1, (h6 j hj).2⟩⟩
theorem FloatsAt.keepK {K : Nat} {w w' : World} {v : Value} {xs : List Nat} (h : FloatsAt K w v xs) (hb : Keeps (· < K) w w') : FloatsAt K w' v xs := by
  obtain ⟨ao, c, h1, h2, h3⟩ := h
  refine ⟨ao, c, h1, h2, fun hn => ?_⟩
  obtain ⟨b, o, h4, h5, h6⟩ := h3 hn
  exact ⟨b, o, h4, h5, fun j hj => ⟨hb.cell h5 (h6 j hj).1, (h6 j hj).2⟩⟩
theorem IntssAt.keepK {K : Nat} {w w' : World} {v : Value} {xs : List (List Int)} (h : IntssAt K w v xs) (hb : Keeps (· < K) w w') : IntssAt K w' v xs := by
  obtain ⟨ao, c, h1, h2, h3⟩ := h
  refine ⟨ao, c, h1, h2, fun hn => ?_⟩
  obtain ⟨b, o, h4, h5, h6⟩ := h3 hn
  refine ⟨b, o, h4, h5, fun j hj => ?_⟩
  obtain ⟨u, h7, h8⟩ := h6 j hj
  exact ⟨u, hb.cell h5 h7, h8.keepK hb⟩
mutual
theorem GeoVs.keepK {K : Nat} {w w' : World} (hb : Keeps (· < K) w w') : ∀ (g : Geo) (vs : List Value), GeoVs K w vs g → GeoVs K w' vs g
  | .mk k l s f e ee kids, vs, h => by
    obtain ⟨vf, ve, vee, vk, h0, h1, h2, h3, h4, h5, h6, ao, c, h7, h8, b, o, h9, h10⟩ := h
    refine ⟨vf, ve, vee, vk, h0, h1, h2, h3, h4.keepK hb, h5.keepK hb, h6.keepK hb, ao, c, h7, h8, b, o, h9, ?_⟩
    rcases Nat.eq_zero_or_pos kids.length with hz | hz
    · have : kids = [] := List.length_eq_zero_iff.1 hz
      subst this
      simp only [GeosAt]
    · exact GeosAt.keepK hb kids b o (h9 hz).2 h10
theorem GeosAt.keepK {K : Nat} {w w' : World} (hb : Keeps (· < K) w w') : ∀ (l : List Geo) (b o : Nat), b < K → GeosAt K w b o l → GeosAt K w' b o l
  | [], _, _, _, _ => by simp only [GeosAt]
  | g :: r, b, o, hbK, h => by
    obtain ⟨⟨vs, h1, h2⟩, h3⟩ := h
    exact ⟨⟨vs, fun j hj => hb.cell hbK (h1 j hj), GeoVs.keepK hb g vs h2⟩, GeosAt.keepK hb r b (o + 7) hbK h3⟩
end
theorem IntsAt.up {K K' : Nat} {w : World} {v : Value} {xs : List Int} (h : IntsAt K w v xs) (hK : K ≤ K') : IntsAt K' w v xs := by
  obtain ⟨ao, c, h1, h2, h3⟩ := h
  refine ⟨ao, c, h1, h2, fun hn => ?_⟩
  obtain ⟨b, o, h4, h5, h6⟩ := h3 hn
  exact ⟨b, o, h4, Nat.lt_of_lt_of_le h5 hK, h6⟩
theorem FloatsAt.up {K K' : Nat} {w : World} {v : Value} {xs : List Nat} (h : FloatsAt K w v xs) (hK : K ≤ K') : FloatsAt K' w v xs := by
  obtain ⟨ao, c, h1, h2, h3⟩ := h
  refine ⟨ao, c, h1, h2, fun hn => ?_⟩
  obtain ⟨b, o, h4, h5, h6⟩ := h3 hn
  exact ⟨b, o, h4, Nat.lt_of_lt_of_le h5 hK, h6⟩
theorem IntssAt.up {K K' : Nat} {w : World} {v : Value} {xs : List (List Int)} (h : IntssAt K w v xs) (hK : K ≤ K') : IntssAt K' w v xs := by
  obtain ⟨ao, c, h1, h2, h3⟩ := h
  refine ⟨ao, c, h1, h2, fun hn => ?_⟩
  obtain ⟨b, o, h4, h5, h6⟩ := h3 hn
  refine ⟨b, o, h4, Nat.lt_of_lt_of_le h5 hK, fun j hj => ?_⟩
  obtain ⟨u, h7, h8⟩ := h6 j hj
  exact ⟨u, h7, h8.up hK⟩
mutual
theorem GeoVs.up {K K' : Nat} {w : World} (hK : K ≤ K') : ∀ (g : Geo) (vs : List Value), GeoVs K w vs g → GeoVs K' w vs g
  | .mk k l s f e ee kids, vs, h => by
    obtain ⟨vf, ve, vee, vk, h0, h1, h2, h3, h4, h5, h6, ao, c, h7, h8, b, o, h9, h10⟩ := h
    exact ⟨vf, ve, vee, vk, h0, h1, h2, h3, h4.up hK, h5.up hK, h6.up hK, ao, c, h7, h8, b, o, fun hz => ⟨(h9 hz).1, Nat.lt_of_lt_of_le (h9 hz).2 hK⟩, GeosAt.up hK kids b o h10⟩
theorem GeosAt.up {K K' : Nat} {w : World} (hK : K ≤ K') : ∀ (l : List Geo) (b o : Nat), GeosAt K w b o l → GeosAt K' w b o l
  | [], _, _, _ => by simp only [GeosAt]
  | g :: r, b, o, h => by
    obtain ⟨⟨vs, h1, h2⟩, h3⟩ := h
    exact ⟨⟨vs, h1, GeoVs.up hK g vs h2⟩, GeosAt.up hK r b (o + 7) h3⟩
end
theorem IntsIn.toAt {K : Nat} {w : World} {v : Value} {xs : List Int} (h : IntsIn (· < K) w v xs) : IntsAt K w v xs := by
  obtain ⟨ao, c, h1, h2, h3⟩ := h
  refine ⟨ao, c, h1, h2, fun hn => ?_⟩
  obtain ⟨b, o, h4, h5, h6⟩ := h3 hn
  exact ⟨b, o, h4, h5, fun j hj => by simpa using h6 j hj⟩
theorem FloatsIn.toAt {K : Nat} {w : World} {v : Value} {xs : List Nat} (h : FloatsIn (· < K) w v xs) : FloatsAt K w v xs := by
  obtain ⟨ao, c, h1, h2, h3⟩ := h
  refine ⟨ao, c, h1, h2, fun hn => ?_⟩
  obtain ⟨b, o, h4, h5, h6⟩ := h3 hn
  exact ⟨b, o, h4, h5, fun j hj => by simpa using h6 j hj⟩
/-- A part's seven values: a part that stood already, or one just made. -/
def PartP (S : Nat → Prop) (w : World) (vs : List Value) (p : Geo) : Prop :=
  (∃ K0, (∀ b, b < K0 → S b) ∧ GeoVs K0 w vs p) ∨
  (∃ (k l : Int) (f : List Nat) (e : List Int), p = .mk k l 0 f e [] [] ∧ ∃ vf ve, vs = [.int .i64 k, .int .i64 l, .int .i64 0, vf, ve, .slice none 0 0, .slice none 0 0] ∧ I64 k ∧ I64 l ∧ FloatsIn S w vf f ∧ IntsIn S w ve e)
theorem PartP.mono {S T : Nat → Prop} {w : World} {vs : List Value} {p : Geo} (h : PartP S w vs p) (hS : ∀ b, S b → T b) : PartP T w vs p := by
  rcases h with ⟨K0, h1, h2⟩ | ⟨k, l, f, e, rfl, vf, ve, rfl, h1, h2, h3, h4⟩
  · exact Or.inl ⟨K0, fun b hb => hS b (h1 b hb), h2⟩
  · exact Or.inr ⟨k, l, f, e, rfl, vf, ve, rfl, h1, h2, h3.mono hS, h4.mono hS⟩
theorem PartP.keep {S : Nat → Prop} {w w' : World} {vs : List Value} {p : Geo} (h : PartP S w vs p) (hk : Keeps S w w') : PartP S w' vs p := by
  rcases h with ⟨K0, h1, h2⟩ | ⟨k, l, f, e, rfl, vf, ve, rfl, h1, h2, h3, h4⟩
  · exact Or.inl ⟨K0, h1, GeoVs.keepK (fun b hb => hk b (h1 b hb)) _ _ h2⟩
  · exact Or.inr ⟨k, l, f, e, rfl, vf, ve, rfl, h1, h2, h3.keep hk, h4.keep hk⟩
theorem PartP.geo {N : Nat} {w : World} {vs : List Value} {p : Geo} (h : PartP (· < N) w vs p) : GeoVs N w vs p := by
  rcases h with ⟨K0, h1, h2⟩ | ⟨k, l, f, e, rfl, vf, ve, rfl, h1, h2, h3, h4⟩
  · refine GeoVs.up ?_ p vs h2
    rcases Nat.lt_or_ge N K0 with h3 | h3
    · have := h1 N h3
      omega
    · exact h3
  · exact ⟨vf, ve, _, _, rfl, h1, h2, ⟨by decide, by decide⟩, h3.toAt, h4.toAt, ⟨none, 0, rfl, ⟨Nat.le_refl _, Nat.zero_le _⟩, fun hh => absurd hh (by simp)⟩, none, 0, rfl, ⟨Nat.le_refl _, Nat.zero_le _⟩, 0, 0, fun hh => absurd hh (by simp), by simp only [GeosAt]⟩

set_option maxHeartbeats 3200000 in
theorem part7_c (K : Nat) (w : World) (vs : List Value) (l s : Int) (f : List Nat) (e : List Int) (ee : List (List Int)) (kids : List Geo) (hv : GeoVs K w vs (.mk 7 l s f e ee kids)) (hK : K ≤ w.heap.size) (i : Nat) (hi : i < kids.length) :
    Calls Tryz.prog 15 #[.agg vs.toArray, .int .i64 i] w fun en w' => ∃ us, en = .returned (.agg us.toArray) ∧ PartP (· < K) w' us kids[i] ∧ Below w.heap.size w w' := by
  obtain ⟨vf, ve, vee, vk, rfl, h1, h2, h3, ⟨a3, c3, rfl, ⟨hc3, hl3⟩, _⟩, ⟨a4, c4, rfl, ⟨hc4, hl4⟩, _⟩, ⟨a5, c5, rfl, ⟨hc5, hl5⟩, _⟩, ao, c, rfl, ⟨h8, hkl⟩, b, o, h9, h10⟩ := hv
  obtain ⟨rfl, hbK⟩ := h9 (by omega)
  obtain ⟨us, hc, hu⟩ := GeosAt.get kids b o i _ h10 (List.getElem?_eq_getElem hi)
  obtain ⟨q0, q1, q2, b3, b4, b5, b6, n3, n4, n5, n6, m3, m4, m5, m6, rfl⟩ := hu.seven
  obtain ⟨d0, d1, d2, d3, d4, d5, d6⟩ := seven_cells hc
  have hbl : b < w.heap.size := Nat.lt_of_lt_of_le hbK hK
  have hbl1 : b < w.heap.size + 1 := Nat.lt_succ_of_lt hbl
  have Hu := Lib.hid hu
  have Hnb := Lib.hid (show PartP (· < K) w [.int .i64 q0, .int .i64 q1, .int .i64 q2, .slice b3 n3 m3, .slice b4 n4 m4, .slice b5 n5 m5, .slice b6 n6 m6] kids[i] from Or.inl ⟨K, fun _ h => h, hu⟩)
  clear h10 h9 hc hu h1 h2 h3
  go_enter Tryz.func15, Tryz.ntmps15
  go_wp2
  refine bodyPost_ret (v := .agg #[.int .i64 q0, .int .i64 q1, .int .i64 q2, .slice b3 n3 m3, .slice b4 n4 m4, .slice b5 n5 m5, .slice b6 n6 m6]) ?_ rfl ?_
  · simp [results, Tryz.results15, go_sem]
  · have hb2 : Below w.heap.size w ((w.alloc (.cells #[.int .i64 7, .int .i64 l, .int .i64 s, .slice a3 f.length c3, .slice a4 e.length c4, .slice a5 ee.length c5, .slice (some ⟨b, o, none⟩) kids.length c] 27)).alloc (.cells #[.int .i64 q0, .int .i64 q1, .int .i64 q2, .slice b3 n3 m3, .slice b4 n4 m4, .slice b5 n5 m5, .slice b6 n6 m6] 27)) :=
      ((Below.refl _ w).alloc (Nat.le_refl _) _).alloc (by rw [World.size_alloc]; omega) _
    exact ⟨[.int .i64 q0, .int .i64 q1, .int .i64 q2, .slice b3 n3 m3, .slice b4 n4 m4, .slice b5 n5 m5, .slice b6 n6 m6], rfl, Hnb.out.keep (keeps_of_below (hb2.mono hK)), hb2⟩
end Go.Proofs.YtfbgnonnbcejkaaGreatDoor
