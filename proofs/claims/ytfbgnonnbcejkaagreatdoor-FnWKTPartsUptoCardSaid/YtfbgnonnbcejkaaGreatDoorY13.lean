/- Lemmas on the way to the law FnWKTParts, without conditions beside those that each states: Copies of rows | Rows that a call gathers, of values that lead on; the copy of rows of rows | A collection under construction: MustPush, MustSetLayout | A collection's layout is set. -/
import Derived.Test.YtfbgnonnbcejkaaGreatDoorY09
import Derived.Test.YtfbgnonnbcejkaaGreatDoorY12
namespace Go.Proofs.YtfbgnonnbcejkaaGreatDoor
open Go.RowKit

theorem run_append_zero {P : Program} (w : World) (t ty e : TypeId) (i : TypeInfo) (ht : P.underlying t = some (.slice e)) (hi : P.info? e = some i) (ao : Option Addr) (c : Nat) :
    (Builtin.append_ #[t, t] ty #[.slice none 0 0, .slice ao 0 c]).run P w = .ok (.slice none 0 0) w := by
  cases ao <;> simp [Builtin.append_, run_underlying ht, sizeOf, typeInfo, hi, Builtin.lenOf, Builtin.firstCells, loadCells, loadCellsFrom]
/-- The operation, where its run is known. -/
theorem wp_append_known {ops : Array Oper} {rest : List Oper} {o : Oper} {a : Act} {Q : Exit → Act → World → Prop} {w : World} (hgd : o.guard = none) (s x : Operand) (t : TypeId)
    (ho : o.op = .call { callee := .builtin .append, args := #[s, x], argTypes := #[t, t] }) (v u : Value) (hs : a.eval s = v) (hx : a.eval x = u) (v' : Value) (w' : World)
    (hr : (Builtin.append_ #[t, t] o.type #[v, u]).run Tryz.prog w = .ok v' w') (h : wpList Tryz.prog ops Q rest (a.put o.dst v') w') : wpList Tryz.prog ops Q (o :: rest) a w := by
  refine wpList_plain hgd fun K hK => ?_
  unfold Oper.wp execOp
  simp only [ho, resolve, invoke, builtin, Sem.run_bind, Sem.run_pure, Result.andThen_ok, List.map_toArray, List.map_cons, List.map_nil, hs, hx, hr]
  exact hK _ _ h
theorem owns_cell {w : World} {base e : Nat} {v : Value} {n : Nat} {xs : List Value} (h : w.ownsRow base e 1 v n xs) (hn : 0 < n) :
    ∃ g c, v = .slice (some ⟨g, 0, none⟩) n c ∧ n ≤ c ∧ base ≤ g ∧ g < w.heap.size ∧ ∀ j u, xs[j]? = some u → w.cell? ⟨g, j, none⟩ = some u := by
  rcases h.2 with ⟨_, h0⟩ | ⟨g, cap, cur, rfl, hbg, hg, hnc, hcm, hcs, htake⟩
  · omega
  · have hlt : g < w.heap.size := by
      rcases Nat.lt_or_ge g w.heap.size with h' | h'
      · exact h'
      · simp [Array.getElem?_eq_none h'] at hg
    refine ⟨g, cap, rfl, hnc, hbg, hlt, fun j u hu => ?_⟩
    have hj : j < xs.length := (List.getElem?_eq_some_iff.1 hu).1
    rw [h.1] at hj
    exact (World.ownsRow.cellAt (w := w) ⟨h.1, Or.inr ⟨g, cap, cur, rfl, hbg, hg, hnc, hcm, hcs, htake⟩⟩ j hj).trans hu
theorem slIn_owns {w : World} {base e : Nat} {v : Value} {n : Nat} {xs : List Value} (h : w.ownsRow base e 1 v n xs) (hl : n ≤ 1048576) (at' : Nat → Nat → Nat → Prop)
    (ha : ∀ j g, j < n → (∀ u, xs[j]? = some u → w.cell? ⟨g, j, none⟩ = some u) → base ≤ g → g < w.heap.size → at' j g j) : SlIn (fun b => base ≤ b ∧ b < w.heap.size) v n at' := by
  rcases Nat.eq_zero_or_pos n with h0 | h0
  · subst h0
    rcases h.2 with ⟨rfl, _⟩ | ⟨g, cap, cur, rfl, _⟩
    · exact ⟨_, _, rfl, ⟨Nat.le_refl _, hl⟩, fun hh => absurd hh (by omega)⟩
    · exact ⟨_, _, rfl, ⟨Nat.zero_le _, hl⟩, fun hh => absurd hh (by omega)⟩
  · obtain ⟨g, c, rfl, h1, h2, h3, h4⟩ := owns_cell h h0
    exact ⟨_, _, rfl, ⟨h1, hl⟩, fun _ => ⟨g, 0, rfl, ⟨h2, h3⟩, fun j hj => by rw [Nat.zero_add]; exact ha j g hj (h4 j) h2 h3⟩⟩
theorem infoF : (Tryz.prog.info? 151).map (fun i => (i.zero, i.size, i.bytes)) = some (some (.float .f64 0), 1, 8) := by kernel_rfl
theorem infoI : (Tryz.prog.info? 3).map (fun i => (i.zero, i.size, i.bytes)) = some (some (.int .i64 0), 1, 8) := by kernel_rfl
theorem infoS : (Tryz.prog.info? 23).map (fun i => (i.zero, i.size, i.bytes)) = some (some (.slice none 0 0), 1, 24) := by kernel_rfl
theorem infoT : (Tryz.prog.info? 44).map (fun i => (i.zero, i.size, i.bytes)) = some (some .nilIface, 1, 16) := by kernel_rfl
theorem getD_of {α : Type} (xs : List α) (j : Nat) (d : α) (h : j < xs.length) : xs[j]? = some (xs.getD j d) := by
  rw [List.getD_eq_getElem?_getD, List.getElem?_eq_getElem h]; rfl

set_option maxHeartbeats 1600000 in
theorem floats_c (K : Nat) (v : Value) (xs : List Nat) (w : World) (h : FloatsIn (· < K) w v xs) :
    Calls Tryz.prog 27 #[v] w fun e w' => ∃ a n m, e = .returned (.slice a n m) ∧ FloatsIn (fun b => w.heap.size ≤ b ∧ b < w'.heap.size) w' (.slice a n m) xs ∧ Below w.heap.size w w' := by
  obtain ⟨i0, hi, hz0, hz1, hz2⟩ := info_parts infoF
  obtain ⟨ao, c, rfl, ⟨hc, hl⟩, hx⟩ := h
  rcases Nat.eq_zero_or_pos xs.length with h0 | h0
  · have hnil : xs = [] := List.length_eq_zero_iff.1 h0
    subst hnil
    clear hx
    have hr := fun ty => run_append_zero (P := Tryz.prog) w 22 ty 151 i0 Tryz.underlying22 hi ao c
    go_enter Tryz.func27, Tryz.ntmps27
    go_wp2_with (at_builtin; refine wp_append_known rfl _ _ 22 rfl _ _ rfl rfl _ _ (hr _) ?_)
    go_ret
    exact ⟨none, 0, 0, rfl, ⟨_, _, rfl, ⟨Nat.le_refl _, hl⟩, fun hh => absurd hh (by simp)⟩, Below.refl _ _⟩
  · obtain ⟨b, o, rfl, hbK, ha⟩ := hx h0
    have hcells : ∀ j u, (xs.map (Value.float .f64))[j]? = some u → w.cell? ((⟨b, o, none⟩ : Addr).add j) = some u := by
      intro j u hu
      have hj : j < xs.length := by simpa using (List.getElem?_eq_some_iff.1 hu).1
      rw [List.getElem?_map, getD_of xs j 0 hj] at hu
      cases hu
      show w.cell? ((⟨b, o, none⟩ : Addr).add j) = _
      rw [show (⟨b, o, none⟩ : Addr).add j = ⟨b, o + j, none⟩ by unfold Addr.add; split <;> simp_all]
      exact (ha j hj).1
    have h64 : ∀ j, j < xs.length → xs.getD j 0 < 18446744073709551616 := fun j hj => (ha j hj).2
    have Hx := Lib.hid h64
    clear hx ha h64
    go_enter Tryz.func27, Tryz.ntmps27
    go_wp2_with (at_builtin; refine wpList_append_own _ rfl _ _ 22 rfl w.heap.size 151 i0 (.float .f64 0) 1 8 Tryz.underlying22 hi hz0 hz1 hz2 rfl (by decide) _ 0 [] rfl (World.ownsRow_nil _ _ _ _) ⟨b, o, none⟩ xs.length c (xs.map (Value.float .f64)) rfl (by simp) hcells ?c1 ?c2 ?c3 (Nat.le_refl _) ?_)
    case c1 => intro u hu; obtain ⟨x, _, rfl⟩ := List.mem_map.1 hu; rfl
    case c2 => unfold maxLen; omega
    case c3 => omega
    intro v' w' hown hgrow hnil
    try rw [Nat.zero_add, List.nil_append] at hown
    obtain ⟨g, c', rfl, h1, h2, h3, h4⟩ := owns_cell hown h0
    have Hown := Lib.hid hown
    have Hgrow := Lib.hid hgrow
    clear hown hgrow hnil h4
    go_wp2
    go_ret
    refine ⟨_, _, _, rfl, slIn_owns Hown.out hl _ ?_, Below.grown (Below.refl _ _) Hgrow.out (Nat.le_refl _) (fun k hk => by simp [Value.ownBlock] at hk)⟩
    intro j g' hj hu _ _
    exact ⟨hu _ (by rw [List.getElem?_map, getD_of xs j 0 hj]; rfl), Hx.out j hj⟩
set_option maxHeartbeats 1600000 in
theorem ints_c (K : Nat) (v : Value) (xs : List Int) (w : World) (h : IntsIn (· < K) w v xs) :
    Calls Tryz.prog 35 #[v] w fun e w' => ∃ a n m, e = .returned (.slice a n m) ∧ (a = none → xs = []) ∧ IntsIn (fun b => w.heap.size ≤ b ∧ b < w'.heap.size) w' (.slice a n m) xs ∧ Below w.heap.size w w' := by
  obtain ⟨i0, hi, hz0, hz1, hz2⟩ := info_parts infoI
  obtain ⟨ao, c, rfl, ⟨hc, hl⟩, hx⟩ := h
  rcases Nat.eq_zero_or_pos xs.length with h0 | h0
  · have hnil : xs = [] := List.length_eq_zero_iff.1 h0
    subst hnil
    clear hx
    have hr := fun ty => run_append_zero (P := Tryz.prog) w 23 ty 3 i0 Tryz.underlying23 hi ao c
    go_enter Tryz.func35, Tryz.ntmps35
    go_wp2_with (at_builtin; refine wp_append_known rfl _ _ 23 rfl _ _ rfl rfl _ _ (hr _) ?_)
    go_ret
    exact ⟨none, 0, 0, rfl, fun _ => trivial, ⟨_, _, rfl, ⟨Nat.le_refl _, hl⟩, fun hh => absurd hh (by simp)⟩, Below.refl _ _⟩
  · obtain ⟨b, o, rfl, hbK, ha⟩ := hx h0
    have hcells : ∀ j u, (xs.map (Value.int .i64))[j]? = some u → w.cell? ((⟨b, o, none⟩ : Addr).add j) = some u := by
      intro j u hu
      have hj : j < xs.length := by simpa using (List.getElem?_eq_some_iff.1 hu).1
      rw [List.getElem?_map, getD_of xs j 0 hj] at hu
      cases hu
      show w.cell? ((⟨b, o, none⟩ : Addr).add j) = _
      rw [show (⟨b, o, none⟩ : Addr).add j = ⟨b, o + j, none⟩ by unfold Addr.add; split <;> simp_all]
      exact (ha j hj).1
    have h64 : ∀ j, j < xs.length → I64 (xs.getD j 0) := fun j hj => (ha j hj).2
    have Hx := Lib.hid h64
    clear hx ha h64
    go_enter Tryz.func35, Tryz.ntmps35
    go_wp2_with (at_builtin; refine wpList_append_own _ rfl _ _ 23 rfl w.heap.size 3 i0 (.int .i64 0) 1 8 Tryz.underlying23 hi hz0 hz1 hz2 rfl (by decide) _ 0 [] rfl (World.ownsRow_nil _ _ _ _) ⟨b, o, none⟩ xs.length c (xs.map (Value.int .i64)) rfl (by simp) hcells ?c1 ?c2 ?c3 (Nat.le_refl _) ?_)
    case c1 => intro u hu; obtain ⟨x, _, rfl⟩ := List.mem_map.1 hu; rfl
    case c2 => unfold maxLen; omega
    case c3 => omega
    intro v' w' hown hgrow hnil
    try rw [Nat.zero_add, List.nil_append] at hown
    obtain ⟨g, c', rfl, h1, h2, h3, h4⟩ := owns_cell hown h0
    have Hown := Lib.hid hown
    have Hgrow := Lib.hid hgrow
    clear hown hgrow hnil h4
    go_wp2
    go_ret
    refine ⟨_, _, _, rfl, (fun h => by simp at h), slIn_owns Hown.out hl _ ?_, Below.grown (Below.refl _ _) Hgrow.out (Nat.le_refl _) (fun k hk => by simp [Value.ownBlock] at hk)⟩
    intro j g' hj hu _ _
    exact ⟨hu _ (by rw [List.getElem?_map, getD_of xs j 0 hj]; rfl), Hx.out j hj⟩
end Go.Proofs.YtfbgnonnbcejkaaGreatDoor
namespace Go.Proofs.YtfbgnonnbcejkaaGreatDoor
open Go.RowKit

/-- 'append(s, x)' onto a row that the call owns: and which block the row lies in then. -/
theorem wp_appendX {ops : Array Oper} {rest : List Oper} {o : Oper} {a : Act} {Q : Exit → Act → World → Prop} {w : World} (hgd : o.guard = none) (s x : Operand) (t : TypeId)
    (ho : o.op = .call { callee := .builtin .append, args := #[s, x], argTypes := #[t, t] })
    (base : Nat) (e : TypeId) (i : TypeInfo) (z : Value) (size bytes : Nat) (ht : Tryz.prog.underlying t = some (.slice e)) (hi : Tryz.prog.info? e = some i) (hz : i.zero = some z)
    (hsize : i.size = size) (hby : i.bytes = bytes) (hzs : z.cells.size = size) (hsz : 0 < size)
    (v : Value) (n : Nat) (xs : List Value) (hs : a.eval s = v) (hown : w.ownsRow base e size v n xs)
    (ad : Addr) (m c : Nat) (news : List Value) (hx : a.eval x = .slice (some ad) m c) (hl : news.length = m * size) (hnews : ∀ j u, news[j]? = some u → w.cell? (ad.add j) = some u) (h1 : ∀ u ∈ news, u.oneCell' = true)
    (h63 : n + m ≤ maxLen) (hbytes : (n + m) * bytes ≤ 140737488355328) (hbase : base ≤ w.heap.size)
    (h : ∀ v' w', w'.ownsRow base e size v' (n + m) (xs ++ news) → w.grownBy w' v.ownBlock → (v'.ownBlock = v.ownBlock ∨ v'.ownBlock = some w.heap.size) → wpList Tryz.prog ops Q rest (a.put o.dst v') w') : wpList Tryz.prog ops Q (o :: rest) a w := by
  refine wpList_plain hgd fun K hK => ?_
  obtain ⟨v', w', hr, h2, h3, h4, h5⟩ := run_append_ownX (P := Tryz.prog) w base t o.type e i z size bytes ht hi hz hsize hby hzs hsz v n xs hown ad m c news hl hnews h1 h63 hbytes hbase
  unfold Oper.wp execOp
  simp only [ho, resolve, invoke, builtin, Sem.run_bind, Sem.run_pure, Result.andThen_ok, List.map_toArray, List.map_cons, List.map_nil, hs, hx, hr]
  exact hK _ _ (h v' w' h2 h3 h5)
theorem owns_below {w w' : World} {base e size n : Nat} {v : Value} {xs : List Value} (h : w.ownsRow base e size v n xs) (hb : Below w.heap.size w w') : w'.ownsRow base e size v n xs := by
  refine ⟨h.1, ?_⟩
  rcases h.2 with h0 | ⟨g, cap, cur, hv, h1, h2, h3⟩
  · exact Or.inl h0
  · have : g < w.heap.size := by
      rcases Nat.lt_or_ge g w.heap.size with h' | h'
      · exact h'
      · simp [Array.getElem?_eq_none h'] at h2
    exact Or.inr ⟨g, cap, cur, hv, h1, by rw [hb.block g this]; exact h2, h3⟩

/-- What a predicate on values must bear: more blocks allowed, kept blocks. -/
structure Bears {α : Type} (P : (Nat → Prop) → World → Value → α → Prop) : Prop where
  mono : ∀ {S T : Nat → Prop} {w : World} {v : Value} {x : α}, P S w v x → (∀ b, S b → T b) → P T w v x
  keep : ∀ {S : Nat → Prop} {w w' : World} {v : Value} {x : α}, P S w v x → Keeps S w w' → P S w' v x
/-- The blocks in which the gathered values' things lie: the call's own, but neither the row itself nor what X bars. -/
def GS (base : Nat) (X : Nat → Prop) (w : World) (v : Value) (b : Nat) : Prop := base ≤ b ∧ b < w.heap.size ∧ v.ownBlock ≠ some b ∧ X b
def Gath {α : Type} (P : (Nat → Prop) → World → Value → α → Prop) (base e : Nat) (X : Nat → Prop) (w : World) (v : Value) (l : List α) (xs : List Value) : Prop :=
  w.ownsRow base e 1 v l.length xs ∧ ∀ (j : Nat) (u : Value) (x : α), xs[j]? = some u → l[j]? = some x → P (GS base X w v) w u x
theorem Gath.nil {α : Type} (P : (Nat → Prop) → World → Value → α → Prop) (base e : Nat) (X : Nat → Prop) (w : World) : Gath P base e X w (.slice none 0 0) [] [] :=
  ⟨World.ownsRow_nil _ _ _ _, fun j u x h _ => by simp at h⟩
/-- Blocks that stood stand as they stood. -/
theorem Gath.below {α : Type} {P : (Nat → Prop) → World → Value → α → Prop} (hP : Bears P) {base e : Nat} {X : Nat → Prop} {w w' : World} {v : Value} {l : List α} {xs : List Value} (h : Gath P base e X w v l xs) (hb : Below w.heap.size w w') : Gath P base e X w' v l xs :=
  ⟨owns_below h.1 hb, fun j u x h1 h2 => hP.mono (hP.keep (h.2 j u x h1 h2) (fun b hb' => hb.block b hb'.2.1)) (fun _ hb' => ⟨hb'.1, Nat.lt_of_lt_of_le hb'.2.1 hb.size, hb'.2.2⟩)⟩
/-- One more value. -/
theorem Gath.push {α : Type} {P : (Nat → Prop) → World → Value → α → Prop} (hP : Bears P) {base e N : Nat} {X : Nat → Prop} {w w' : World} {v v' u : Value} {l : List α} {xs : List Value} {x : α} (h : Gath P base e X w v l xs)
    (hN : ∀ k, v.ownBlock = some k → k < N) (hbN : base ≤ N) (hX : ∀ b, N ≤ b → X b) (hu : P (fun b => N ≤ b ∧ b < w.heap.size) w u x)
    (hg : w.grownBy w' v.ownBlock) (hown : w'.ownsRow base e 1 v' (l.length + 1) (xs ++ [u])) (ho : v'.ownBlock = v.ownBlock ∨ v'.ownBlock = some w.heap.size) : Gath P base e X w' v' (l ++ [x]) (xs ++ [u]) := by
  have hk : Keeps (GS base X w v) w w' := fun b hb => hg.block b hb.2.1 (fun e => hb.2.2.1 e.symm)
  have hS : ∀ b, GS base X w v b → GS base X w' v' b := fun b hb => by
    refine ⟨hb.1, Nat.lt_of_lt_of_le hb.2.1 hg.size, ?_, hb.2.2.2⟩
    rcases ho with ho | ho
    · rw [ho]; exact hb.2.2.1
    · rw [ho]; intro e; cases e; exact absurd hb.2.1 (Nat.lt_irrefl _)
  have hlen : xs.length = l.length := by rw [h.1.1, Nat.mul_one]
  refine ⟨by rw [List.length_append]; exact hown, fun j y z h1 h2 => ?_⟩
  rcases Nat.lt_trichotomy j l.length with hj | hj | hj
  · rw [List.getElem?_append_left (by omega)] at h1 h2
    exact hP.mono (hP.keep (h.2 j y z h1 h2) hk) hS
  · subst hj
    rw [← hlen, List.getElem?_append_right (Nat.le_refl _), Nat.sub_self] at h1
    rw [List.getElem?_append_right (Nat.le_refl _), Nat.sub_self] at h2
    cases h1
    cases h2
    have hS2 : ∀ b, (N ≤ b ∧ b < w.heap.size) → GS base X w v b := fun b hb => by
      refine ⟨Nat.le_trans hbN hb.1, hb.2, fun e => ?_, hX b hb.1⟩
      have := hN b e
      omega
    exact hP.mono (hP.keep (hP.mono hu hS2) hk) hS
  · rw [List.getElem?_eq_none (by simp; omega)] at h2
    simp at h2
/-- A store into a block that X bars. -/
theorem Gath.set {α : Type} {P : (Nat → Prop) → World → Value → α → Prop} (hP : Bears P) {base e : Nat} {X : Nat → Prop} {w w' : World} {v : Value} {l : List α} {xs : List Value} (h : Gath P base e X w v l xs) (b0 : Nat) (hX : ¬ X b0) (hv : v.ownBlock ≠ some b0)
    (hs : w'.heap.size = w.heap.size) (hb : ∀ b : Nat, b ≠ b0 → w'.heap[b]? = w.heap[b]?) : Gath P base e X w' v l xs := by
  refine ⟨⟨h.1.1, ?_⟩, fun j u x h1 h2 => ?_⟩
  · rcases h.1.2 with h0 | ⟨g, cap, cur, hv', h1, h2, h3⟩
    · exact Or.inl h0
    · refine Or.inr ⟨g, cap, cur, hv', h1, ?_, h3⟩
      rw [hb g (fun e => hv (by rw [hv', e]; rfl))]
      exact h2
  · exact hP.mono (hP.keep (h.2 j u x h1 h2) (fun b hb' => hb b (fun e => hX (e ▸ hb'.2.2.2)))) (fun b hb' => ⟨hb'.1, by rw [hs]; exact hb'.2.1, hb'.2.2⟩)
theorem bears_ints : Bears IntsIn := ⟨fun h hS => h.mono hS, fun h hk => h.keep hk⟩
theorem bears_obj : Bears (fun S w v x => ObjAt S w v x) := ⟨fun h hS => ObjAt.mono hS _ _ h, fun h hk => ObjAt.keep hk _ _ h⟩

theorem take_succ_getD (xs : List (List Int)) (k : Nat) (h : k < xs.length) : xs.take (k + 1) = xs.take k ++ [xs.getD k []] := by
  rw [List.getD_eq_getElem?_getD, List.getElem?_eq_getElem h, List.take_add_one, List.getElem?_eq_getElem h]
  rfl

set_option maxHeartbeats 3200000 in
theorem intss_c (K : Nat) (v : Value) (xss : List (List Int)) (w : World) (h : IntssIn (· < K) w v xss) (hK : K ≤ w.heap.size) :
    Calls Tryz.prog 43 #[v] w fun e w' => ∃ a n m, e = .returned (.slice a n m) ∧ IntssIn (fun b => w.heap.size ≤ b ∧ b < w'.heap.size) w' (.slice a n m) xss ∧ Below w.heap.size w w' := by
  obtain ⟨i0, hi, hz0, hz1, hz2⟩ := info_parts infoS
  obtain ⟨ao, c, rfl, ⟨hc, hl⟩, hx⟩ := h
  have Hx := Lib.hid hx
  clear hx
  go_enter Tryz.func43, Tryz.ntmps43
  go_wp2
  go_loopw [3, 8] (fun u i wr => ∃ (k : Nat) (vs : List Value), k ≤ xss.length ∧ i = .int .i64 k ∧ Gath IntsIn w.heap.size 23 (fun _ => True) wr u (xss.take k) vs ∧ Below w.heap.size w wr) (fun _ i _ => xss.length - (intOf i).toNat)
  case atStart => exact ⟨0, [], Nat.zero_le _, rfl, Gath.nil _ _ _ _ _, Below.refl _ _⟩
  case round =>
    obtain ⟨k, vs, hk, rfl, hg, hb⟩ := hrel
    rename_i u3 _ _
    by_cases hkl : k < xss.length
    · obtain ⟨b, o, rfl, hbK, ha⟩ := Hx.out (by omega)
      obtain ⟨u, hcell0, hu⟩ := ha k hkl
      have hb' := hb.mono hK
      have hcell := (keeps_of_below hb').cell hbK hcell0
      have hu' := hu.keep (keeps_of_below hb')
      have hKr : K ≤ wr.heap.size := Nat.le_trans hK hb.size
      have hI := Lib.hid (ints_c K u (xss.getD k []) wr hu')
      have ht := take_succ_getD xss k hkl
      have hlt : (xss.take k).length = k := by rw [List.length_take]; omega
      generalize xss.getD k [] = x at *
      have Ht := Lib.hid ht
      have Hg := Lib.hid hg
      have Hb := Lib.hid hb
      obtain ⟨au, cu, rfl, _, _⟩ := hu'
      clear ht hg hb hb' hu ha hcell0
      go_wp2_with (go_at_call 35; refine hI.out.mono ?_)
      try simp only [and_imp, forall_exists_index]
      rintro e w2 a2 n2 m2 rfl _ hi2 hb2
      have hg2 := Gath.below bears_ints Hg.out hb2
      have hown2 := hg2.1.alloc (.cells #[.slice a2 n2 m2] 23)
      rw [hlt] at hown2
      have hc2 : ∀ j y, ([Value.slice a2 n2 m2] : List Value)[j]? = some y → (w2.alloc (.cells #[.slice a2 n2 m2] 23)).cell? ((⟨w2.heap.size, 0, none⟩ : Addr).add j) = some y := by
        intro j y hj
        match j, hj with
        | 0, hj => simp at hj; subst hj; simp [Addr.add]
      have hsz2 := hb2.size
      have hsw := Hb.out.size
      have hbase : w.heap.size ≤ (w2.alloc (.cells #[.slice a2 n2 m2] 23)).heap.size := by simp; omega
      have Hi2 := Lib.hid hi2
      have Hb2 := Lib.hid hb2
      have Hg2 := Lib.hid hg2
      clear hi2 hb2 hg2
      go_wp2_with (at_builtin; refine wp_appendX rfl _ _ 24 rfl w.heap.size 23 i0 (.slice none 0 0) 1 24 Tryz.underlying24 hi hz0 hz1 hz2 rfl (by decide) _ k vs rfl hown2 ⟨w2.heap.size, 0, none⟩ 1 1 [.slice a2 n2 m2] rfl rfl hc2 ?c1 ?c2 ?c3 hbase ?_)
      case c1 => intro y hy; simp at hy; subst hy; rfl
      case c2 => unfold maxLen; omega
      case c3 => omega
      intro v' w4 hown4 hgrow ho
      have Hgrow := Lib.hid hgrow
      have Ho := Lib.hid ho
      have Hown4 := Lib.hid hown4
      clear hgrow ho hown4 hc2 hown2
      go_wp2
      go_roundw
      case rel =>
        have hg3 := Gath.below bears_ints Hg2.out ((Below.refl w2.heap.size w2).alloc (Nat.le_refl _) (.cells #[.slice a2 n2 m2] 23))
        have hi3 := (Hi2.out.keep (w' := w2.alloc (.cells #[.slice a2 n2 m2] 23)) (fun b hb => ((Below.refl w2.heap.size w2).alloc (Nat.le_refl _) _).block b hb.2)).mono (T := fun b => wr.heap.size ≤ b ∧ b < (w2.alloc (.cells #[.slice a2 n2 m2] 23)).heap.size) (fun b hb => ⟨hb.1, by simp; omega⟩)
        refine ⟨k + 1, vs ++ [.slice a2 n2 m2], by omega, by go_num, ?_, ?_⟩
        · rw [Ht.out]
          exact Gath.push bears_ints (N := wr.heap.size) hg3 (fun q hq => (Hg.out.1.lt q hq).2) hsw (fun _ _ => trivial) hi3 Hgrow.out (by rw [hlt]; exact Hown4.out) (by rw [World.size_alloc]; exact Ho.out)
        · exact ((Hb.out.trans (Hb2.out.mono hsw)).alloc (by omega) _).grown Hgrow.out hbase (fun q hq => (Hg.out.1.lt q hq).1)
      case measure => simp [intOf]; omega
    · have hke : k = xss.length := by omega
      rw [hke, List.take_length] at hg
      have Hg := Lib.hid hg
      have Hb := Lib.hid hb
      clear hg hb hke
      have hsl : ∃ a n m, u3 = .slice a n m := by
        rcases Hg.out.1.2 with ⟨h0, _⟩ | ⟨g, cap, cur, h0, _⟩ <;> exact ⟨_, _, _, h0⟩
      obtain ⟨a, n, m, rfl⟩ := hsl
      go_wp2
      go_ret
      refine ⟨_, _, _, rfl, slIn_owns Hg.out.1 hl _ ?_, Hb.out⟩
      intro j g hj hu _ _
      have hjv : j < vs.length := by have := Hg.out.1.1; omega
      refine ⟨vs[j], hu _ (List.getElem?_eq_getElem hjv), ?_⟩
      exact (Hg.out.2 j _ _ (List.getElem?_eq_getElem hjv) (by rw [List.getD_eq_getElem?_getD, List.getElem?_eq_getElem hj]; rfl)).mono (fun b hb => ⟨hb.1, hb.2.1⟩)
end Go.Proofs.YtfbgnonnbcejkaaGreatDoor
namespace Go.Proofs.YtfbgnonnbcejkaaGreatDoor
open Go.RowKit

def ObjP (S : Nat → Prop) (w : World) (v : Value) (x : Geo) : Prop := ObjAt S w v x
theorem bears_objP : Bears ObjP := ⟨fun h hS => ObjAt.mono hS _ _ h, fun h hk => ObjAt.keep hk _ _ h⟩
/-- A collection that the call makes: its block, its row of parts. -/
structure Coll (base b0 : Nat) (s : Int) (w : World) (v : Value) (l : List Geo) (xs : List Value) : Prop where
  blk : w.heap[b0]? = some (.cells #[.int .i64 0, v, .int .i64 s] 120 (0, 0))
  gath : Gath ObjP base 44 (fun b => b ≠ b0) w v l xs
  own : v.ownBlock ≠ some b0
  base : base ≤ b0
theorem Coll.lt {base b0 : Nat} {s : Int} {w : World} {v : Value} {l : List Geo} {xs : List Value} (h : Coll base b0 s w v l xs) : b0 < w.heap.size := by
  rcases Nat.lt_or_ge b0 w.heap.size with h' | h'
  · exact h'
  · have := h.blk
    simp [Array.getElem?_eq_none h'] at this
theorem Coll.below {base b0 : Nat} {s : Int} {w w' : World} {v : Value} {l : List Geo} {xs : List Value} (h : Coll base b0 s w v l xs) (hb : Below w.heap.size w w') : Coll base b0 s w' v l xs :=
  ⟨by rw [hb.block b0 h.lt]; exact h.blk, h.gath.below bears_objP hb, h.own, h.base⟩
theorem Coll.slice {base b0 : Nat} {s : Int} {w : World} {v : Value} {l : List Geo} {xs : List Value} (h : Coll base b0 s w v l xs) : ∃ a n m, v = .slice a n m := by
  rcases h.gath.1.2 with ⟨h0, _⟩ | ⟨g, cap, cur, h0, _⟩ <;> exact ⟨_, _, _, h0⟩

set_option maxHeartbeats 3200000 in
theorem push_c (base b0 bs N : Nat) (s : Int) (v : Value) (l : List Geo) (xs : List Value) (T bk : Nat) (x : Geo) (w : World) (h : Coll base b0 s w v l xs) (hl : l.length ≤ 1048576)
    (hN : ∀ k, v.ownBlock = some k → k < N) (hbN : b0 < N) (hu : ObjP (fun b => N ≤ b ∧ b < w.heap.size) w (.iface T (.pointer (some ⟨bk, 0, none⟩))) x) (hbs : w.cell? ⟨bs, 0, none⟩ = some (.iface T (.pointer (some ⟨bk, 0, none⟩)))) :
    Calls Tryz.prog 54 #[.pointer (some ⟨b0, 0, none⟩), .slice (some ⟨bs, 0, none⟩) 1 1] w fun e w' => e = .returned .nilIface ∧ (∃ v', Coll base b0 s w' v' (l ++ [x]) (xs ++ [.iface T (.pointer (some ⟨bk, 0, none⟩))])) ∧ Below base w w' := by
  obtain ⟨i0, hi, hz0, hz1, hz2⟩ := info_parts infoT
  obtain ⟨a1, n1, m1, rfl⟩ := h.slice
  have hb := h.blk
  have hlt := h.lt
  have c0 : w.cell? ⟨b0, 0, none⟩ = some (.int .i64 0) := by rw [Lib.cell_of_heap hb]; rfl
  have c1 : w.cell? ⟨b0, 1, none⟩ = some (.slice a1 n1 m1) := by rw [Lib.cell_of_heap hb]; rfl
  have hown := h.gath.1
  have hbase : base ≤ w.heap.size := Nat.le_trans h.base (Nat.le_of_lt hlt)
  have hc2 : ∀ j y, ([Value.iface T (.pointer (some ⟨bk, 0, none⟩))] : List Value)[j]? = some y → w.cell? ((⟨bs, 0, none⟩ : Addr).add j) = some y := by
    intro j y hj
    match j, hj with
    | 0, hj =>
      simp at hj
      subst hj
      exact hbs
  have H := Lib.hid h
  have Hu := Lib.hid hu
  have HN := Lib.hid hN
  clear h hu hN hb
  go_enter Tryz.func54, Tryz.ntmps54
  go_wp2_with (at_builtin; refine wp_appendX rfl _ _ 118 rfl base 44 i0 .nilIface 1 16 Tryz.underlying118 hi hz0 hz1 hz2 rfl (by decide) _ l.length xs rfl hown ⟨bs, 0, none⟩ 1 1 [.iface T (.pointer (some ⟨bk, 0, none⟩))] rfl rfl hc2 ?c1 ?c2 ?c3 hbase ?_)
  case c1 => intro y hy; simp at hy; subst hy; rfl
  case c2 => unfold maxLen; omega
  case c3 => omega
  intro v' w4 hown4 hgrow ho
  have hb4 : w4.heap[b0]? = some (.cells #[.int .i64 0, .slice a1 n1 m1, .int .i64 s] 120 (0, 0)) := by
    rw [hgrow.block b0 hlt (fun e => H.out.own e.symm)]
    exact H.out.blk
  have d0 : w4.cell? ⟨b0, 0, none⟩ = some (.int .i64 0) := by rw [Lib.cell_of_heap hb4]; rfl
  have d1 : w4.cell? ⟨b0, 1, none⟩ = some (.slice a1 n1 m1) := by rw [Lib.cell_of_heap hb4]; rfl
  have f1 : w4.frozen? ⟨b0, 1, none⟩ = false := Lib.frozen_of_heap hb4 1
  obtain ⟨a4, n4, m4, rfl⟩ : ∃ a n m, v' = .slice a n m := by
    rcases hown4.2 with ⟨h0, _⟩ | ⟨g, cap, cur, h0, _⟩ <;> exact ⟨_, _, _, h0⟩
  have hg := Gath.push bears_objP H.out.gath HN.out (Nat.le_trans H.out.base (Nat.le_of_lt hbN)) (fun b hb => by omega) Hu.out hgrow hown4 ho
  have hne : (Value.slice a4 n4 m4).ownBlock ≠ some b0 := by
    rcases ho with ho | ho
    · rw [ho]; exact H.out.own
    · rw [ho]; intro e; cases e; exact absurd hlt (Nat.lt_irrefl _)
  have hbel : Below base w w4 := (Below.refl base w).grown hgrow hbase (fun q hq => (hown.lt q hq).1)
  have Hg := Lib.hid hg
  have Hb4 := Lib.hid hb4
  have Hbel := Lib.hid hbel
  have Hne := Lib.hid hne
  clear hg hb4 hbel hne hgrow hown4 ho hc2
  go_wp2
  go_ret
  refine ⟨rfl, ⟨_, ?_, ?_, Hne.out, H.out.base⟩, Hbel.out.setCell (p := ⟨b0, 1, none⟩) H.out.base _⟩
  · have := Hb4.out
    simp [World.setCell, Array.getElem?_modify, this]
  · exact Gath.set bears_objP Hg.out b0 (by simp) Hne.out (by simp [World.setCell]) (fun b hb => Below.heap_setCell _ _ _ _ hb)
set_option maxHeartbeats 1600000 in
theorem mustPush_c (base b0 bs N : Nat) (s : Int) (v : Value) (l : List Geo) (xs : List Value) (T bk : Nat) (x : Geo) (w : World) (h : Coll base b0 s w v l xs) (hl : l.length ≤ 1048576)
    (hN : ∀ k, v.ownBlock = some k → k < N) (hbN : b0 < N) (hu : ObjP (fun b => N ≤ b ∧ b < w.heap.size) w (.iface T (.pointer (some ⟨bk, 0, none⟩))) x) (hbs : w.cell? ⟨bs, 0, none⟩ = some (.iface T (.pointer (some ⟨bk, 0, none⟩)))) :
    Calls Tryz.prog 47 #[.pointer (some ⟨b0, 0, none⟩), .slice (some ⟨bs, 0, none⟩) 1 1] w fun e w' => e = .returned (.pointer (some ⟨b0, 0, none⟩)) ∧ (∃ v', Coll base b0 s w' v' (l ++ [x]) (xs ++ [.iface T (.pointer (some ⟨bk, 0, none⟩))])) ∧ Below base w w' := by
  have hC := Lib.hid (push_c base b0 bs N s v l xs T bk x w h hl hN hbN hu hbs)
  go_enter Tryz.func47, Tryz.ntmps47
  go_wp2_with (go_at_call 54; refine hC.out.mono ?_)
  try simp only [and_imp, forall_exists_index]
  rintro e w2 rfl v' hc hb
  have Hc := Lib.hid hc
  have Hb := Lib.hid hb
  clear hc hb
  go_wp2
  go_ret
  exact ⟨rfl, ⟨_, Hc.out⟩, Hb.out⟩
end Go.Proofs.YtfbgnonnbcejkaaGreatDoor
namespace Go.Proofs.YtfbgnonnbcejkaaGreatDoor
open Go.RowKit

set_option maxHeartbeats 3200000 in
theorem checkLayout_c (base b0 : Nat) (s : Int) (v : Value) (l : List Geo) (xs : List Value) (la : Int) (w : World) (h : Coll base b0 s w v l xs) (hg : ∀ x ∈ l, goodF x = true) (hla : la ≠ 0 → ∀ x ∈ l, layoutOfF x = la) (hl : l.length ≤ 1048576) :
    Calls Tryz.prog 74 #[.pointer (some ⟨b0, 0, none⟩), .int .i64 la] w fun e w' => e = .returned .nilIface ∧ w = w' := by
  by_cases h0 : la = 0
  · subst h0
    go_enter Tryz.func74, Tryz.ntmps74
    go_wp2
    go_ret
    exact ⟨rfl, rfl⟩
  · have hz : (la != 0) = true := by simpa using h0
    have hla' := hla h0
    obtain ⟨a1, n1, m1, rfl⟩ := h.slice
    have c1 : w.cell? ⟨b0, 1, none⟩ = some (.slice a1 n1 m1) := by rw [Lib.cell_of_heap h.blk]; rfl
    have hn1 : n1 = l.length := by
      rcases h.gath.1.2 with ⟨hv, h0⟩ | ⟨g, cap, cur, hv, _⟩
      · cases hv; omega
      · cases hv; rfl
    subst hn1
    have H := Lib.hid h
    have Hg := Lib.hid hg
    have Hla := Lib.hid hla'
    clear h hg hla hla' h0
    go_enter Tryz.func74, Tryz.ntmps74
    go_wp2
    go_loopw [15] (fun i wr => w = wr ∧ ∃ j : Nat, j ≤ l.length ∧ i = .int .i64 j) (fun i _ => l.length - (intOf i).toNat)
    case atStart => exact ⟨rfl, 0, Nat.zero_le _, rfl⟩
    case round =>
      obtain ⟨rfl, j, hj, rfl⟩ := hrel
      by_cases hjl : j < l.length
      · obtain ⟨g, c, hv, h1, h2, h3, h4⟩ := owns_cell H.out.gath.1 (by omega)
        cases hv
        have hjx : j < xs.length := by have := H.out.gath.1.1; omega
        have hcell := h4 j _ (List.getElem?_eq_getElem hjx)
        have hob := H.out.gath.2 j _ _ (List.getElem?_eq_getElem hjx) (List.getElem?_eq_getElem hjl)
        obtain ⟨bk, hbk, hvk⟩ := ObjAt.shape hob
        have hgk := Hg.out _ (List.getElem_mem hjl)
        have hkr := kind_range _ hgk
        have hlk := Hla.out _ (List.getElem_mem hjl)
        unfold ObjP at hob
        rw [hvk] at hcell hob
        have HC := Lib.hid (objLayout_c _ _ (Nat.le_refl _) hgk _ w bk hob)
        rw [hlk] at HC
        have HM := Lib.hid (callLayout l[j].kind hkr.1 hkr.2 ⟨bk, 0, none⟩)
        clear hob hvk hgk hkr hlk hbk h4
        generalize tidF l[j].kind = tj at *
        generalize layFn l[j].kind = fj at *
        go_wp2_with (refine wp_invoke0 rfl _ _ _ rfl _ _ rfl _ _ (HM.out _) _ HC.out ?_)
        go_roundw
        case rel => exact ⟨trivial, j + 1, by omega, by go_num⟩
        case measure => simp [intOf]; omega
      · have hje : j = l.length := by omega
        go_wp2
        go_ret
        exact ⟨rfl, rfl⟩
theorem setLayout_c (base b0 : Nat) (s : Int) (v : Value) (l : List Geo) (xs : List Value) (la : Int) (w : World) (h : Coll base b0 s w v l xs) (hg : ∀ x ∈ l, goodF x = true) (hla : la ≠ 0 → ∀ x ∈ l, layoutOfF x = la) (hl : l.length ≤ 1048576) :
    Calls Tryz.prog 55 #[.pointer (some ⟨b0, 0, none⟩), .int .i64 la] w fun e w' => e = .returned .nilIface ∧ w' = w.setCell ⟨b0, 0, none⟩ (.int .i64 la) := by
  have hC := Lib.hid (checkLayout_c base b0 s v l xs la w h hg hla hl)
  have c0 : w.cell? ⟨b0, 0, none⟩ = some (.int .i64 0) := by rw [Lib.cell_of_heap h.blk]; rfl
  have f0 : w.frozen? ⟨b0, 0, none⟩ = false := Lib.frozen_of_heap h.blk 0
  clear h hg hla
  go_enter Tryz.func55, Tryz.ntmps55
  go_wp2_with (go_at_call 74; refine hC.out.mono ?_; rintro e w3 ⟨rfl, rfl⟩)
  go_ret
  exact ⟨rfl, rfl⟩
theorem mustSetLayout_c (base b0 : Nat) (s : Int) (v : Value) (l : List Geo) (xs : List Value) (la : Int) (w : World) (h : Coll base b0 s w v l xs) (hg : ∀ x ∈ l, goodF x = true) (hla : la ≠ 0 → ∀ x ∈ l, layoutOfF x = la) (hl : l.length ≤ 1048576) :
    Calls Tryz.prog 48 #[.pointer (some ⟨b0, 0, none⟩), .int .i64 la] w fun e w' => e = .returned (.pointer (some ⟨b0, 0, none⟩)) ∧ w' = w.setCell ⟨b0, 0, none⟩ (.int .i64 la) := by
  have hC := Lib.hid (setLayout_c base b0 s v l xs la w h hg hla hl)
  clear h hg hla
  go_enter Tryz.func48, Tryz.ntmps48
  go_wp2_with (go_at_call 55; refine hC.out.mono ?_; rintro e w3 ⟨rfl, rfl⟩)
  go_ret
  exact ⟨rfl, rfl⟩
/-- Behind it the collection is an object. -/
theorem Coll.obj {base b0 : Nat} {s : Int} {w : World} {v : Value} {l : List Geo} {xs : List Value} (h : Coll base b0 s w v l xs) (la sr : Int) (f : List Nat) (e : List Int) (ee : List (List Int)) (hl : l.length ≤ 1048576) :
    ObjAt (fun b => base ≤ b ∧ b < (w.setCell ⟨b0, 0, none⟩ (.int .i64 la)).heap.size) (w.setCell ⟨b0, 0, none⟩ (.int .i64 la)) (.iface 85 (.pointer (some ⟨b0, 0, none⟩))) (.mk 7 la sr f e ee l) := by
  have hsz : (w.setCell ⟨b0, 0, none⟩ (.int .i64 la)).heap.size = w.heap.size := by simp [World.setCell]
  obtain ⟨a1, n1, m1, rfl⟩ := h.slice
  have hb : (w.setCell ⟨b0, 0, none⟩ (.int .i64 la)).heap[b0]? = some (.cells #[.int .i64 la, .slice a1 n1 m1, .int .i64 s] 120 (0, 0)) := by
    have := h.blk
    simp [World.setCell, Array.getElem?_modify, this]
  have hg := Gath.set bears_objP h.gath b0 (by simp) h.own hsz (fun b hb => Below.heap_setCell w ⟨b0, 0, none⟩ (.int .i64 la) b hb)
  have hn1 : n1 = l.length := by
    rcases h.gath.1.2 with ⟨hv, h0⟩ | ⟨g, cap, cur, hv, _⟩
    · cases hv; omega
    · cases hv; rfl
  subst hn1
  refine ⟨b0, ⟨h.base, by rw [hsz]; exact h.lt⟩, rfl, fun hh => absurd rfl hh, fun _ => ⟨by rw [Lib.cell_of_heap hb]; rfl, a1, m1, ?_⟩⟩
  rcases Nat.eq_zero_or_pos l.length with hz | hz
  · have hnil : l = [] := List.length_eq_zero_iff.1 hz
    subst hnil
    refine ⟨0, by rw [Lib.cell_of_heap hb]; rfl, Nat.zero_le _, hl, fun hh => absurd hh (by simp), by simp only [ObjsAt]⟩
  · obtain ⟨g, c, hv, h1, h2, h3, h4⟩ := owns_cell hg.1 hz
    cases hv
    refine ⟨g, by rw [Lib.cell_of_heap hb]; rfl, h1, hl, fun _ => ⟨rfl, h2, h3⟩, ObjsAt.of l g 0 fun j x hj => ?_⟩
    have hjl := (List.getElem?_eq_some_iff.1 hj).1
    have hjx : j < xs.length := by have := hg.1.1; omega
    rw [Nat.zero_add]
    exact ⟨_, h4 j _ (List.getElem?_eq_getElem hjx), ObjAt.mono (fun b hb => ⟨hb.1, hb.2.1⟩) _ _ (hg.2 j _ _ (List.getElem?_eq_getElem hjx) hj)⟩
end Go.Proofs.YtfbgnonnbcejkaaGreatDoor
