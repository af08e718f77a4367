/- Lemmas on the way to the law FnWKTParts, without conditions beside those that each states: The encoder: EncodeOptionWithMaxDecimalDigits, NewEncoder, Encode, Marshal | Marshal | How long the text of a number is, and the text of a geometry. -/
import Derived.Test.YtfbgnonnbcejkaaGreatDoorY35
import Derived.Test.YtfbgnonnbcejkaaGreatDoorY15
import Derived.Test.YtfbgnonnbcejkaaGreatDoorY39
namespace Go.Proofs.YtfbgnonnbcejkaaGreatDoor
open Go.RowKit

theorem opt_c (p : Int) (w : World) : Calls Tryz.prog 20 #[.int .i64 p] w fun e w' => e = .returned (.func (.func 49) #[] #[.pointer (some ⟨w.heap.size, 0, none⟩)]) ∧ w' = w.alloc (.cells #[.int .i64 p] 3) := by
  go_enter Tryz.func20, Tryz.ntmps20
  go_wp2
  go_ret
  exact ⟨rfl, rfl⟩
theorem optSet_c (b be : Nat) (p : Int) (u : Value) (w : World) (he : w.cell? ⟨be, 0, none⟩ = some (.int .i64 p)) (hc : w.cell? ⟨b, 0, none⟩ = some u) (hf : w.frozen? ⟨b, 0, none⟩ = false) :
    Calls Tryz.prog 49 #[.pointer (some ⟨b, 0, none⟩), .pointer (some ⟨be, 0, none⟩)] w fun e w' => e = .returned (.tuple #[]) ∧ w' = w.setCell ⟨b, 0, none⟩ (.int .i64 p) := by
  go_enter Tryz.func49, Tryz.ntmps49
  go_wp2
  go_end0
  exact ⟨rfl, rfl⟩
set_option maxHeartbeats 3200000 in
theorem newEncoder_c (bs be : Nat) (p : Int) (w : World) (hbs : w.cell? ⟨bs, 0, none⟩ = some (.func (.func 49) #[] #[.pointer (some ⟨be, 0, none⟩)])) (hbe : w.cell? ⟨be, 0, none⟩ = some (.int .i64 p)) (hbsl : bs < w.heap.size) (hbel : be < w.heap.size) :
    Calls Tryz.prog 25 #[.slice (some ⟨bs, 0, none⟩) 1 1] w fun e w' => e = .returned (.pointer (some ⟨w.heap.size, 0, none⟩)) ∧ w' = w.alloc (.cells #[.int .i64 p] 91) := by
  go_enter Tryz.func25, Tryz.ntmps25
  go_wp2
  go_loopw [10] (fun i wr => (i = .int .i64 0 ∧ wr = w.alloc (.cells #[.int .i64 (-1)] 91)) ∨ (i = .int .i64 1 ∧ wr = w.alloc (.cells #[.int .i64 p] 91))) (fun i _ => 1 - (intOf i).toNat)
  case atStart => exact Or.inl ⟨rfl, rfl⟩
  case round =>
    rcases hrel with ⟨rfl, rfl⟩ | ⟨rfl, rfl⟩
    · have d0 : (w.alloc (.cells #[.int .i64 (-1)] 91)).cell? ⟨bs, 0, none⟩ = some (.func (.func 49) #[] #[.pointer (some ⟨be, 0, none⟩)]) := (Below.refl w.heap.size w |>.alloc (Nat.le_refl _) _).cell hbsl |>.trans hbs
      have d1 : (w.alloc (.cells #[.int .i64 (-1)] 91)).cell? ⟨be, 0, none⟩ = some (.int .i64 p) := (Below.refl w.heap.size w |>.alloc (Nat.le_refl _) _).cell hbel |>.trans hbe
      have d2 : (w.alloc (.cells #[.int .i64 (-1)] 91)).cell? ⟨w.heap.size, 0, none⟩ = some (.int .i64 (-1)) := newCell rfl
      have d3 : (w.alloc (.cells #[.int .i64 (-1)] 91)).frozen? ⟨w.heap.size, 0, none⟩ = false := newFrozen
      go_wp2_with (go_at_call 49; refine (optSet_c w.heap.size be p _ _ d1 d2 d3).mono ?_; rintro e w3 ⟨rfl, rfl⟩)
      go_roundw
      case rel => exact Or.inr ⟨rfl, trivial⟩
      case measure => simp [intOf]
    · go_wp2
      go_ret
      exact ⟨rfl, rfl⟩
/-- The builder, just made. -/
theorem sb_new (w : World) (B : Nat) (hB : B ≤ w.heap.size) : Sb B w.heap.size [] (w.alloc (.cells #[.pointer none, .slice none 0 0] 95)) :=
  Or.inl ⟨hB, .slice none 0 0, heap_alloc_new w _, World.ownsRow_nil _ _ _ _, by simp [Value.ownBlock]⟩
set_option maxHeartbeats 3200000 in
theorem encode_c (B en : Nat) (prec : Int) (v : Value) (g : Geo) (w : World) (c : Ctx B en prec w) (hg : goodF g = true) (hl : gLayF 4 g = true) (ho : ObjAt (· < B) w v g) (hlen : (textF (numF prec) g).length ≤ 140737488355000) :
    Calls Tryz.prog 26 #[.pointer (some ⟨en, 0, none⟩), v] w fun e w' => e = .returned (.tuple #[.string ⟨(textF (numF prec) g).toArray⟩, .nilIface]) ∧ Below B w w' := by
  have hbw : Below B w (w.alloc (.cells #[.pointer none, .slice none 0 0] 95)) := (Below.refl B w).alloc c.size _
  have hW := Lib.hid (write_c _ g (Nat.le_refl _) hg hl B en w.heap.size prec [] v _ (c.below hbw) (sb_new w B c.size) (ObjAt.keep (keeps_of_below hbw) _ _ ho) (by simpa using hlen))
  obtain ⟨bo, hbo, rfl⟩ := ho.shape
  have hsz := c.size
  generalize textF (numF prec) g = tx at *
  generalize tidF g.kind = tk at *
  clear hlen ho c
  go_enter Tryz.func26, Tryz.ntmps26
  go_wp2_with (go_at_call 50; refine hW.out.mono ?_)
  try simp only [and_imp]
  rintro e w2 rfl hs2 hb2
  rw [List.nil_append] at hs2
  have hS := Lib.hid (Tryz.Builder_String_any B w.heap.size tx w2 hs2 (by have := hb2.size; have := hbw.size; omega))
  have Hb2 := Lib.hid (hbw.trans hb2)
  clear hs2 hb2 hbw
  go_wp2_with (go_at_call 51; refine hS.out.mono ?_; rintro e w3 ⟨rfl, hb3⟩)
  go_ret2
  exact ⟨rfl, Hb2.out.trans hb3⟩
end Go.Proofs.YtfbgnonnbcejkaaGreatDoor
namespace Go.Proofs.YtfbgnonnbcejkaaGreatDoor
open Go.RowKit

theorem Tabs.up {B B' : Nat} {w : World} (T : Tabs B w) (h : B ≤ B') : Tabs B' w := by
  obtain ⟨b, o, hb, h3, hc⟩ := T.cheats
  exact ⟨Nat.le_trans T.low h, T.opt, T.u10, T.p10, b, o, Nat.lt_of_lt_of_le hb h, h3, hc⟩
/-- What FormatFloat writes is not long. -/
def LenOk (prec : Int) : Prop := ∀ b, b < 18446744073709551616 → (ffL b prec).length ≤ 1000000
set_option maxHeartbeats 3200000 in
theorem marshal_c (bs be : Nat) (prec : Int) (v : Value) (g : Geo) (w : World) (T : Tabs w.heap.size w) (hp0 : -1 ≤ prec) (hp1 : prec ≤ 20) (hL : LenOk prec) (hg : goodF g = true) (hl : gLayF 4 g = true) (ho : ObjAt (· < w.heap.size) w v g) (hlen : (textF (numF prec) g).length ≤ 140737488355000)
    (hbs : w.cell? ⟨bs, 0, none⟩ = some (.func (.func 49) #[] #[.pointer (some ⟨be, 0, none⟩)])) (hbe : w.cell? ⟨be, 0, none⟩ = some (.int .i64 prec)) (hbsl : bs < w.heap.size) (hbel : be < w.heap.size) :
    Calls Tryz.prog 18 #[v, .slice (some ⟨bs, 0, none⟩) 1 1] w fun e w' => e = .returned (.tuple #[.string ⟨(textF (numF prec) g).toArray⟩, .nilIface]) ∧ Below w.heap.size w w' := by
  have hbw : Below w.heap.size w (w.alloc (.cells #[.int .i64 prec] 91)) := (Below.refl _ w).alloc (Nat.le_refl _) _
  have hsz : (w.alloc (.cells #[.int .i64 prec] 91)).heap.size = w.heap.size + 1 := World.size_alloc ..
  have hN := Lib.hid (newEncoder_c bs be prec w hbs hbe hbsl hbel)
  have hc : Ctx (w.heap.size + 1) w.heap.size prec (w.alloc (.cells #[.int .i64 prec] 91)) := ⟨(T.below hbw).up (Nat.le_succ _), newCell rfl, Nat.lt_succ_self _, by omega, hp0, hp1, hL⟩
  have hE := Lib.hid (encode_c (w.heap.size + 1) w.heap.size prec v g _ hc hg hl (ObjAt.mono (fun b (hb : b < w.heap.size) => Nat.lt_succ_of_lt hb) _ _ (ObjAt.keep (keeps_of_below hbw) _ _ ho)) hlen)
  have Hbw := Lib.hid hbw
  obtain ⟨bo, hbo, rfl⟩ := ho.shape
  generalize textF (numF prec) g = tx at *
  generalize tidF g.kind = tk at *
  clear hlen ho hc T hbw hbs hbe
  go_enter Tryz.func18, Tryz.ntmps18
  go_wp2_with (first | (go_at_call 25; refine hN.out.mono ?_; rintro e w2 ⟨rfl, rfl⟩) | (go_at_call 26; refine hE.out.mono ?_; rintro e w3 ⟨rfl, hb3⟩))
  go_ret2
  exact ⟨rfl, Hbw.out.trans (hb3.mono (Nat.le_succ _))⟩
end Go.Proofs.YtfbgnonnbcejkaaGreatDoor
namespace Go.Proofs.YtfbgnonnbcejkaaGreatDoor
open Go.RowKit

theorem fmtF_len (neg : Bool) (l : List UInt8) (dp prec : Int) (h0 : dp ≤ 50000) (h1 : prec ≤ 40000) : (fmtF neg l dp prec).length ≤ 100000 := by
  unfold fmtF
  rw [List.length_append, List.length_append]
  have a : (signT neg).length ≤ 1 := by cases neg <;> simp [signT]
  have b : (wholeT l dp).length ≤ 50001 := by
    unfold wholeT
    split
    · rw [List.length_append, List.length_take, List.length_replicate]; omega
    · simp
  have c : (fracT l dp prec).length ≤ 40001 := by
    unfold fracT
    split
    · have hlz : 0 ≤ lzF dp prec ∧ lzF dp prec ≤ prec := by unfold lzF; omega
      have hm : midF l.length dp prec ≤ prec - lzF dp prec ∧ 0 ≤ midF l.length dp prec := by unfold midF; omega
      rw [List.length_cons, List.length_append, List.length_append, List.length_replicate, List.length_replicate, List.length_take]
      omega
    · simp
  omega
theorem shN_dp (f : Nat → Dec → Dec) (hf : ∀ k d, 1 ≤ k → k ≤ 60 → (f k d).dp ≤ d.dp + 20) : ∀ (n k : Nat) (d : Dec), 1 ≤ k → (shN f n k d).dp ≤ d.dp + 20 * (n : Int)
  | 0, _, d, _ => by unfold shN; omega
  | n + 1, k, d, hk => by
    unfold shN
    split
    · have h1 := hf 60 d (by omega) (by omega)
      have h2 := shN_dp f hf n (k - 60) (f 60 d) (by omega)
      omega
    · have h1 := hf k d hk (by omega)
      omega
theorem shiftD_dp (k : Int) (d : Dec) (h0 : -2000 ≤ k) (h1 : k ≤ 2000) : (shiftD k d).dp ≤ d.dp + 40000 := by
  unfold shiftD
  split
  · have := shN_dp shlD (fun k d h1 h60 => by
      have := deltaF_le k h1 h60 d.D
      show d.dp + (deltaF k d.D : Int) ≤ _
      omega) k.toNat k.toNat d (by omega)
    omega
  · split
    · have := shN_dp shrD (fun k d h1 h60 => by
        show d.dp - ((rsR k d.D : Int) - 1) ≤ _
        omega) (-k).toNat (-k).toNat d (by omega)
      omega
    · omega
theorem roundD_dp (d : Dec) (n : Int) : (roundD d n).dp ≤ max (d.dp + 1) 0 := by
  unfold roundD
  split
  · omega
  · split
    · unfold upD
      split
      · show d.dp ≤ _; omega
      · show d.dp + 1 ≤ _; omega
    · show trimDp _ _ ≤ _
      unfold trimDp
      split <;> omega
theorem finT_len (neg : Bool) (m e prec : Int) (hm0 : 0 ≤ m) (hm1 : m < 9007199254740992) (he0 : -1022 ≤ e) (he1 : e ≤ 1024) (hp0 : -1 ≤ prec) (hp1 : prec ≤ 20) : (finT neg m e prec).length ≤ 100000 := by
  unfold finT
  split
  · exact fmtF_len _ _ _ _ (by omega) (by omega)
  · rename_i hm
    have hb := bitLen53 m (by omega) hm1
    have hs : 11 ≤ nrm m ∧ nrm m ≤ 63 := by unfold nrm; omega
    split
    · unfold shortT
      have h1 := shortF_p (shlM m) (e - nrm m - 52) (by omega) (by omega)
      have h2 := shortF_range (shlM m) (e - nrm m - 52)
      have h3 := digs_le _ h2.1 h2.2
      have h4 := stripZ_le (digs (shortF (shlM m) (e - nrm m - 52)).1)
      exact fmtF_len _ _ _ _ (by omega) (by omega)
    · split
      · unfold fixT
        split
        · exact fmtF_len _ _ _ _ (by omega) (by omega)
        · split
          · exact fmtF_len _ _ _ _ (by omega) (by omega)
          · rename_i hp hn hn0 hd0
            have hfn : fixN e prec = if 0 ≤ e then 1 + (1 + e) * 78913 / 262144 + prec else 1 + prec - (-e) * 78913 / 262144 := rfl
            have h1 := fixedP_range (shlM m) (e - nrm m - 52) (fixN e prec) prec (by omega) (by omega) (by split at hfn <;> omega) (by split at hfn <;> omega)
            have h2 := roundF_range (div10s (fixedU1 (shlM m) (e - nrm m - 52) (fixN e prec)) (fixedP1 (e - nrm m - 52) (fixN e prec) (fixedBig (shlM m) (e - nrm m - 52) (fixN e prec)) - prec).toNat)
            have h3 := digs_le (fixedD (shlM m) (e - nrm m - 52) (fixN e prec) prec) h2.1 h2.2
            exact fmtF_len _ _ _ _ (by omega) (by omega)
      · unfold slowT
        have h1 : (slowD m e prec).dp ≤ 41000 := by
          have h2 := (slow_facts m (by omega) hm1).2.1
          have h3 : (slow1 m e).dp ≤ (slow0 m).dp + 40000 := shiftD_dp (e - 52) (slow0 m) (by omega) (by omega)
          have h4 : (slowD m e prec).dp ≤ max ((slow1 m e).dp + 1) 0 := roundD_dp _ _
          omega
        exact fmtF_len _ _ _ _ (by omega) (by omega)
theorem ffL_len (b : Nat) (prec : Int) (hp0 : -1 ≤ prec) (hp1 : prec ≤ 20) : (ffL b prec).length ≤ 100000 := by
  unfold ffL
  split
  · split
    · simp
    · split <;> simp
  · have h1 := fracB_range b
    have h2 := mantF_range (expB b) (fracB b) h1.1 h1.2
    have h3 := expB_range b
    exact finT_len _ _ _ _ h2.1 h2.2 (by unfold expF; split <;> omega) (by unfold expF; split <;> omega) hp0 hp1
theorem lenOk (prec : Int) (hp0 : -1 ≤ prec) (hp1 : prec ≤ 20) : LenOk prec := fun b _ => Nat.le_trans (ffL_len b prec hp0 hp1) (by decide)
theorem numF_len (b : Nat) (prec : Int) (hp0 : -1 ≤ prec) (hp1 : prec ≤ 20) : (numF prec b).length ≤ 100000 := by
  have h := ffL_len b prec hp0 hp1
  unfold numF
  split
  · exact Nat.le_trans (trimR_le _ _) (Nat.le_trans (trimR_le _ _) h)
  · exact h

theorem coordF_len (num : Nat → List UInt8) (hn : ∀ b, (num b).length ≤ 100000) : ∀ (f : List Nat) (first : Bool), (coordF num first f).length ≤ 100001 * f.length
  | [], _ => by simp [coordF]
  | x :: r, first => by
    have h1 := coordF_len num hn r false
    have h2 := hn x
    simp only [coordF, List.length_append, List.length_cons]
    have h3 : (if first = true then ([] : List UInt8) else [32]).length ≤ 1 := by split <;> simp
    omega
theorem chunksF_len (num : Nat → List UInt8) (hn : ∀ b, (num b).length ≤ 100000) (st : Nat) : ∀ (n : Nat) (f : List Nat) (first : Bool), (seqF first ((chunksF st n f).map (coordF num true))).length ≤ 100001 * f.length + 2 * n
  | 0, f, _ => by simp [chunksF, seqF]
  | n + 1, [], _ => by simp [chunksF, seqF]
  | n + 1, x :: r, first => by
    have h1 := chunksF_len num hn st n ((x :: r).drop st) false
    have h2 := coordF_len num hn ((x :: r).take st) true
    have h3 : (if first = true then ([] : List UInt8) else [44, 32]).length ≤ 2 := by split <;> simp
    have h4 : ((x :: r).take st).length + ((x :: r).drop st).length = (x :: r).length := by rw [List.length_take, List.length_drop]; omega
    simp only [chunksF, List.map_cons, seqF, List.length_append]
    omega
theorem flat1F_len (num : Nat → List UInt8) (hn : ∀ b, (num b).length ≤ 100000) (st : Nat) (f : List Nat) : (flat1F num st f).length ≤ 100003 * f.length + 2 := by
  have := chunksF_len num hn st f.length f true
  simp only [flat1F, List.length_cons, List.length_append, List.length_nil]
  omega
theorem cut_len_le (f : List Nat) (s e : Int) : (cutF f s e).length ≤ f.length := by
  unfold cutF
  rw [List.length_take, List.length_drop]
  omega
theorem pieces1_len (num : Nat → List UInt8) (hn : ∀ b, (num b).length ≤ 100000) (f : List Nat) : ∀ (e : List Int) (s : Int) (first : Bool), (seqF first (pieces1 num f s e)).length ≤ e.length * (100003 * f.length + 9)
  | [], _, _ => by simp [pieces1, seqF]
  | x :: r, s, first => by
    have h1 := pieces1_len num hn f r x false
    have h2 := coordF_len num hn (cutF f s x) true
    have h3 : (if first = true then ([] : List UInt8) else [44, 32]).length ≤ 2 := by split <;> simp
    have h4 := cut_len_le f s x
    have h5 : (if x ≤ s then EMP else coordF num true (cutF f s x)).length ≤ 100003 * f.length + 5 := by
      split
      · simp [EMP]
      · omega
    simp only [pieces1, seqF, List.length_append, List.length_cons]
    rw [Nat.succ_mul]
    omega
theorem pieces2_len (num : Nat → List UInt8) (hn : ∀ b, (num b).length ≤ 100000) (st : Nat) (f : List Nat) : ∀ (e : List Int) (s : Int) (first : Bool), (seqF first (pieces2 num st f s e)).length ≤ e.length * (100003 * f.length + 9)
  | [], _, _ => by simp [pieces2, seqF]
  | x :: r, s, first => by
    have h1 := pieces2_len num hn st f r x false
    have h2 := flat1F_len num hn st (cutF f s x)
    have h3 : (if first = true then ([] : List UInt8) else [44, 32]).length ≤ 2 := by split <;> simp
    have h4 := cut_len_le f s x
    have h5 : (if x ≤ s then EMP else flat1F num st (cutF f s x)).length ≤ 100003 * f.length + 5 := by
      split
      · simp [EMP]
      · omega
    simp only [pieces2, seqF, List.length_append, List.length_cons]
    rw [Nat.succ_mul]
    omega
theorem flat2F_len (num : Nat → List UInt8) (hn : ∀ b, (num b).length ≤ 100000) (st : Nat) (f : List Nat) (s : Int) (e : List Int) : (flat2F num st f s e).length ≤ e.length * (100003 * f.length + 9) + 2 := by
  have := pieces2_len num hn st f e s true
  simp only [flat2F, List.length_cons, List.length_append, List.length_nil]
  omega
theorem pieces3_len (num : Nat → List UInt8) (hn : ∀ b, (num b).length ≤ 100000) (st : Nat) (f : List Nat) : ∀ (ee : List (List Int)) (s : Int) (first : Bool), (seqF first (pieces3 num st f s ee)).length ≤ endssW ee * (100003 * f.length + 9)
  | [], _, _ => by simp [pieces3, seqF, endssW]
  | x :: r, s, first => by
    have h1 := pieces3_len num hn st f r (lastF s x) false
    have h2 := flat2F_len num hn st f s x
    have h3 : (if first = true then ([] : List UInt8) else [44, 32]).length ≤ 2 := by split <;> simp
    have h5 : (if x = [] then EMP else flat2F num st f s x).length ≤ x.length * (100003 * f.length + 9) + 5 := by
      split
      · simp [EMP]
      · omega
    simp only [pieces3, seqF, List.length_append, endssW]
    rw [Nat.add_mul, Nat.add_mul]
    omega
theorem leafF_len (num : Nat → List UInt8) (hn : ∀ b, (num b).length ≤ 100000) (k l : Int) (f : List Nat) (e : List Int) (ee : List (List Int)) : (leafF num k l f e ee).length ≤ (f.length + e.length + endssW ee) * (100003 * (f.length + 1)) + 9 * (f.length + e.length + endssW ee) + 7 := by
  have g1 := coordF_len num hn f true
  have g2 := flat1F_len num hn (strideF l).toNat f
  have g3 := flat2F_len num hn (strideF l).toNat f 0 e
  have g4 := pieces1_len num hn f e 0 true
  have g6 := pieces3_len num hn (strideF l).toNat f ee 0 true
  have he : EMP.length = 5 := rfl
  have m1 : (f.length + e.length + endssW ee) * (100003 * (f.length + 1)) = 100003 * (f.length * f.length) + 100003 * (e.length * f.length) + 100003 * (endssW ee * f.length) + 100003 * (f.length + e.length + endssW ee) := by
    simp only [Nat.mul_add, Nat.add_mul, Nat.mul_left_comm _ 100003, Nat.mul_one]
    omega
  have m2 : e.length * (100003 * f.length + 9) = 100003 * (e.length * f.length) + 9 * e.length := by
    rw [Nat.mul_add, Nat.mul_left_comm]; omega
  have m3 : endssW ee * (100003 * f.length + 9) = 100003 * (endssW ee * f.length) + 9 * endssW ee := by
    rw [Nat.mul_add, Nat.mul_left_comm]; omega
  rw [m2] at g3 g4
  rw [m3] at g6
  rw [m1]
  unfold leafF
  repeat' split
  all_goals ((try simp only [List.length_cons, List.length_append, List.length_nil]); omega)
theorem head_len (k l : Int) : (kwF k).length + (laF l).length ≤ 30 := by
  have h1 : (kwF k).length ≤ 20 := by unfold kwF; repeat' split
                                      all_goals decide
  have h2 : (laF l).length ≤ 3 := by unfold laF; repeat' split
                                     all_goals decide
  omega
theorem sq_add (a b : Nat) : (a + b) * (a + b) = a * a + 2 * (a * b) + b * b := by
  rw [Nat.add_mul, Nat.mul_add, Nat.mul_add, Nat.mul_comm b a]; omega
mutual
theorem textF_len (num : Nat → List UInt8) (hn : ∀ b, (num b).length ≤ 100000) : ∀ g : Geo, (textF num g).length ≤ 100100 * (geoW g * geoW g)
  | .mk k l s f e ee kids => by
    have hk := textAll_len num hn kids true
    have hl := leafF_len num hn k l f e ee
    have hh := head_len k (layoutOfF (.mk k l s f e ee kids))
    unfold textF
    rw [List.length_append, List.length_append]
    have hW : geoW (.mk k l s f e ee kids) = 1 + (f.length + e.length + endssW ee) + geosW kids := by unfold geoW; omega
    rw [hW]
    generalize geosW kids = S at *
    have q1 := sq_add (1 + (f.length + e.length + endssW ee)) S
    have q3 : (f.length + e.length + endssW ee) * (100003 * (f.length + 1)) ≤ 100003 * ((1 + (f.length + e.length + endssW ee)) * (1 + (f.length + e.length + endssW ee))) := by
      rw [Nat.mul_left_comm]
      exact Nat.mul_le_mul_left _ (Nat.mul_le_mul (by omega) (by omega))
    have q4 : 1 + (f.length + e.length + endssW ee) ≤ (1 + (f.length + e.length + endssW ee)) * (1 + (f.length + e.length + endssW ee)) := Nat.le_mul_of_pos_left _ (by omega)
    have q5 : S ≤ (1 + (f.length + e.length + endssW ee)) * S := Nat.le_mul_of_pos_left _ (by omega)
    generalize (f.length + e.length + endssW ee) * (100003 * (f.length + 1)) = Z at *
    generalize hT : 1 + (f.length + e.length + endssW ee) = T at *
    generalize T * T = TT at *
    generalize T * S = TS at *
    generalize S * S = SS at *
    rw [q1]
    split
    · split
      · have : EMP.length = 5 := rfl
        omega
      · simp only [List.length_cons, List.length_append, List.length_nil]
        omega
    · omega
theorem textAll_len (num : Nat → List UInt8) (hn : ∀ b, (num b).length ≤ 100000) : ∀ (r : List Geo) (first : Bool), (seqF first (textAll num r)).length ≤ 100100 * (geosW r * geosW r) + 2 * geosW r
  | [], _ => by simp [textAll, seqF]
  | g :: r, first => by
    have h1 := textF_len num hn g
    have h2 := textAll_len num hn r false
    have h3 : (if first = true then ([] : List UInt8) else [44, 32]).length ≤ 2 := by split <;> simp
    have h4 : 1 ≤ geoW g := by have := weightF_facts g 0; omega
    simp only [textAll, seqF, List.length_append, geosW]
    have q1 := sq_add (geoW g) (geosW r)
    rw [q1]
    omega
end
theorem text_len (prec : Int) (hp0 : -1 ≤ prec) (hp1 : prec ≤ 20) (g : Geo) (h : geoW g ≤ 2000) : (textF (numF prec) g).length ≤ 1099511627776 := by
  have h1 := textF_len (numF prec) (fun b => numF_len b prec hp0 hp1) g
  have h2 : geoW g * geoW g ≤ 2000 * 2000 := Nat.mul_le_mul h h
  omega
end Go.Proofs.YtfbgnonnbcejkaaGreatDoor
