/- Lemmas on the way to the law FnWKTParts, without conditions beside those that each states: strconv's decimal in memory: its 800 bytes, its counts, its flag; what a store makes of it. And trim | prefixIsLessThan: is the leading prefix of the digits less than a text | zzTrimRight with one sign. -/
import Derived.Test.YtfbgnonnbcejkaaGreatDoorY18
import Derived.Test.YtfbgnonnbcejkaaGreatDoorY12
import Derived.BigRegion
import Derived.RegionTactic
import Derived.Deep.QuietTactic
import Derived.BigQuiet
import Derived.LoopTactic
import Derived.Test.YtfbgnonnbcejkaaGreatDoorY17
namespace Go.Proofs.YtfbgnonnbcejkaaGreatDoor
open Go.RowKit

/-- The list without the zeros at its end. -/
def stripZ (l : List UInt8) : List UInt8 := l.take (stripLen l l.length)
theorem stripLen_le (l : List UInt8) : ∀ n, stripLen l n ≤ n
  | 0 => Nat.le_refl _
  | n + 1 => by
    unfold stripLen
    split
    · exact Nat.le_succ_of_le (stripLen_le l n)
    · exact Nat.le_refl _
theorem stripZ_length (l : List UInt8) : (stripZ l).length = stripLen l l.length := by
  unfold stripZ
  rw [List.length_take]
  exact Nat.min_eq_left (stripLen_le _ _)

/-- A decimal in block a: the bytes P, the count, the point, the flag. -/
def DecM (w : World) (a : Nat) (P : Nat → Value) (nd dp : Int) (tr : Bool) : Prop :=
  ∃ cs : Array Value, w.heap[a]? = some (.cells cs 176 (0, 0)) ∧ cs.size = 804 ∧ (∀ j, j < 800 → cs[j]? = some (P j)) ∧ cs[800]? = some (.int .i64 nd) ∧ cs[801]? = some (.int .i64 dp) ∧ cs[803]? = some (.bool tr)
/-- Only block a has been written, and no block made. -/
def Onl (a : Nat) (w w' : World) : Prop := w.grownBy w' (some a) ∧ w'.heap.size = w.heap.size
theorem Onl.refl (a : Nat) (w : World) : Onl a w w := ⟨⟨rfl, rfl, rfl, Nat.le_refl _, fun _ _ _ => rfl⟩, rfl⟩
theorem Onl.trans {a : Nat} {u v w : World} (h : Onl a u v) (k : Onl a v w) : Onl a u w :=
  ⟨⟨k.1.os.trans h.1.os, k.1.tape.trans h.1.tape, k.1.output.trans h.1.output, Nat.le_trans h.1.size k.1.size, fun j hj hne => (k.1.block j (Nat.lt_of_lt_of_le hj h.1.size) hne).trans (h.1.block j hj hne)⟩, k.2.trans h.2⟩
theorem Onl.set {a : Nat} {u w : World} (h : Onl a u w) (i : Nat) (v : Value) : Onl a u (w.setCell ⟨a, i, none⟩ v) :=
  ⟨⟨h.1.os, h.1.tape, h.1.output, by simp [World.setCell]; exact h.1.size, fun j hj hne => (Below.heap_setCell w ⟨a, i, none⟩ v j (fun e => hne (by rw [e]))).trans (h.1.block j hj hne)⟩, by simp [World.setCell]; exact h.2⟩
theorem Onl.drewN {a : Nat} {u w : World} (h : Onl a u w) (n : Nat) : Onl a u (w.drewN n) := ⟨⟨h.1.os, h.1.tape, h.1.output, h.1.size, h.1.block⟩, h.2⟩
theorem Onl.drew {a : Nat} {u w : World} (h : Onl a u w) : Onl a u w.drew := ⟨⟨h.1.os, h.1.tape, h.1.output, h.1.size, h.1.block⟩, h.2⟩

section
variable {w : World} {a : Nat} {P : Nat → Value} {nd dp : Int} {tr : Bool}
theorem DecM.cell (h : DecM w a P nd dp tr) (j : Nat) (hj : j < 800) : w.cell? ⟨a, j, none⟩ = some (P j) := by
  obtain ⟨cs, hb, _, hP, _⟩ := h
  simp [World.cell?, hb, hP j hj]
theorem DecM.cellNd (h : DecM w a P nd dp tr) : w.cell? ⟨a, 800, none⟩ = some (.int .i64 nd) := by
  obtain ⟨cs, hb, _, _, h0, _⟩ := h
  simp [World.cell?, hb, h0]
theorem DecM.cellDp (h : DecM w a P nd dp tr) : w.cell? ⟨a, 801, none⟩ = some (.int .i64 dp) := by
  obtain ⟨cs, hb, _, _, _, h0, _⟩ := h
  simp [World.cell?, hb, h0]
theorem DecM.cellTr (h : DecM w a P nd dp tr) : w.cell? ⟨a, 803, none⟩ = some (.bool tr) := by
  obtain ⟨cs, hb, _, _, _, _, h0⟩ := h
  simp [World.cell?, hb, h0]
theorem DecM.frozen (h : DecM w a P nd dp tr) (j : Nat) : w.frozen? ⟨a, j, none⟩ = false := by
  obtain ⟨cs, hb, _⟩ := h
  simp [World.frozen?, hb]
theorem DecM.drewN (h : DecM w a P nd dp tr) (n : Nat) : DecM (w.drewN n) a P nd dp tr := h
theorem DecM.drew (h : DecM w a P nd dp tr) : DecM w.drew a P nd dp tr := h
theorem setCell_heap {w : World} {a i : Nat} {cs : Array Value} {t : TypeId} {fr : Nat × Nat} (hb : w.heap[a]? = some (.cells cs t fr)) (v : Value) : (w.setCell ⟨a, i, none⟩ v).heap[a]? = some (.cells (cs.setIfInBounds i v) t fr) := by
  simp [World.setCell, Array.getElem?_modify, hb]
theorem set_at {cs : Array Value} {i j : Nat} {v : Value} (hi : i < cs.size) : (cs.setIfInBounds i v)[j]? = if i = j then some v else cs[j]? := by
  rw [Array.getElem?_setIfInBounds]
  split
  · rfl
  · rfl
theorem DecM.setD (h : DecM w a P nd dp tr) (i : Nat) (hi : i < 800) (v : Value) : DecM (w.setCell ⟨a, i, none⟩ v) a (fun j => if i = j then v else P j) nd dp tr := by
  obtain ⟨cs, hb, hs, hP, h0, h1, h2⟩ := h
  refine ⟨_, setCell_heap hb v, by simpa using hs, fun j hj => ?_, ?_, ?_, ?_⟩
  · rw [set_at (by omega)]
    show _ = some (if i = j then v else P j)
    split
    · rfl
    · exact hP j hj
  · rw [set_at (by omega), if_neg (by omega)]; exact h0
  · rw [set_at (by omega), if_neg (by omega)]; exact h1
  · rw [set_at (by omega), if_neg (by omega)]; exact h2
theorem DecM.setNd (h : DecM w a P nd dp tr) (n : Int) : DecM (w.setCell ⟨a, 800, none⟩ (.int .i64 n)) a P n dp tr := by
  obtain ⟨cs, hb, hs, hP, h0, h1, h2⟩ := h
  refine ⟨_, setCell_heap hb _, by simpa using hs, fun j hj => ?_, ?_, ?_, ?_⟩
  · rw [set_at (by omega), if_neg (by omega)]; exact hP j hj
  · rw [set_at (by omega), if_pos rfl]
  · rw [set_at (by omega), if_neg (by omega)]; exact h1
  · rw [set_at (by omega), if_neg (by omega)]; exact h2
theorem DecM.setDp (h : DecM w a P nd dp tr) (n : Int) : DecM (w.setCell ⟨a, 801, none⟩ (.int .i64 n)) a P nd n tr := by
  obtain ⟨cs, hb, hs, hP, h0, h1, h2⟩ := h
  refine ⟨_, setCell_heap hb _, by simpa using hs, fun j hj => ?_, ?_, ?_, ?_⟩
  · rw [set_at (by omega), if_neg (by omega)]; exact hP j hj
  · rw [set_at (by omega), if_neg (by omega)]; exact h0
  · rw [set_at (by omega), if_pos rfl]
  · rw [set_at (by omega), if_neg (by omega)]; exact h2
theorem DecM.setTr (h : DecM w a P nd dp tr) (b : Bool) : DecM (w.setCell ⟨a, 803, none⟩ (.bool b)) a P nd dp b := by
  obtain ⟨cs, hb, hs, hP, h0, h1, h2⟩ := h
  refine ⟨_, setCell_heap hb _, by simpa using hs, fun j hj => ?_, ?_, ?_, ?_⟩
  · rw [set_at (by omega), if_neg (by omega)]; exact hP j hj
  · rw [set_at (by omega), if_neg (by omega)]; exact h0
  · rw [set_at (by omega), if_neg (by omega)]; exact h1
  · rw [set_at (by omega), if_pos rfl]
end

/-- The bytes P begin with l. -/
def Begins (P : Nat → Value) (l : List UInt8) : Prop := ∀ j, j < l.length → P j = u8c (l.getD j 0)
theorem Begins.take {P : Nat → Value} {l : List UInt8} (h : Begins P l) (n : Nat) : Begins P (l.take n) := by
  intro j hj
  rw [List.length_take] at hj
  rw [h j (by omega), List.getD_eq_getElem?_getD, List.getD_eq_getElem?_getD, List.getElem?_take, if_pos (by omega)]

/-- What the count's cell holds. -/
def ndOf (a : Nat) (w : World) : Nat := match w.cell? ⟨a, 800, none⟩ with | some v => (intOf v).toNat | none => 0
theorem ndOf_eq {w : World} {a : Nat} {P : Nat → Value} {nd dp : Int} {tr : Bool} (h : DecM w a P nd dp tr) : ndOf a w = nd.toNat := by unfold ndOf; rw [h.cellNd]; rfl
/-- What trim leaves. -/
def trimDp (l : List UInt8) (dp : Int) : Int := if (stripZ l).length = 0 then 0 else dp

set_option maxHeartbeats 1600000 in
theorem trim_c (a : Nat) (P : Nat → Value) (l : List UInt8) (dp : Int) (tr : Bool) (w : World) (h : DecM w a P l.length dp tr) (hl : l.length ≤ 800) (hP : Begins P l) :
    Calls Tryz.prog 115 #[.pointer (some ⟨a, 0, none⟩)] w fun e w' => e = .returned (.tuple #[]) ∧ DecM w' a P (stripZ l).length (trimDp l dp) tr ∧ Onl a w w' := by
  go_enter Tryz.func115, Tryz.ntmps115
  go_wp2
  go_loopw [] (fun wr => ∃ k : Nat, k ≤ l.length ∧ stripLen l k = stripLen l l.length ∧ DecM wr a P k dp tr ∧ Onl a w wr) (fun wr => ndOf a wr)
  case atStart => exact ⟨_, Nat.le_refl _, rfl, h, Onl.refl _ _⟩
  case round =>
    obtain ⟨k, hk, hs, hd, ho⟩ := hrel
    have c0 := hd.cellNd
    have Hs := Lib.hid hs
    clear hs
    have f0 := hd.frozen 800
    have f1 := hd.frozen 801
    have c1 := hd.cellDp
    rcases k with _ | k
    · go_wp2
      go_quiet (fail)
      go_wp2
      go_end0
      have e : (stripZ l).length = 0 := by rw [stripZ_length, ← Hs.out]; rfl
      refine ⟨rfl, ?_, (ho.drewN _).set _ _⟩
      rw [e, trimDp, if_pos e]
      exact (hd.drewN _).setDp 0
    · by_cases h48 : l.getD k 0 = 48
      · have c2 : wr.cell? ⟨a, k, none⟩ = some (.int .u8 48) := by rw [hd.cell k (by omega), hP k (by omega), h48]; rfl
        go_wp2
        go_quiet (fail)
        have H48 := Lib.hid h48
        have hm := ndOf_eq hd
        have Hm := Lib.hid hm
        clear h48 hm
        go_wp2
        go_roundw
        case rel => exact ⟨k, by omega, by rw [← Hs.out]; simp only [stripLen]; rw [if_pos H48.out], (hd.drewN _).setNd _, (ho.drewN _).set _ _⟩
        case measure =>
          rw [Hm.out, ndOf_eq ((hd.drewN _).setNd _)]
          simp
      · have hv : ((((l.getD k 0).toNat : Nat) : Int) == 48) = false := by
          rw [beq_eq_false_iff_ne]
          intro he
          exact h48 (UInt8.toNat_inj.1 (by show _ = 48; omega))
        have c2 : wr.cell? ⟨a, k, none⟩ = some (.int .u8 ((l.getD k 0).toNat : Int)) := by rw [hd.cell k (by omega), hP k (by omega)]
        have H48 := Lib.hid h48
        clear h48
        generalize ((l.getD k 0).toNat : Int) = v at c2 hv
        go_wp2
        go_quiet (fail)
        go_wp2
        go_end0
        have e : (stripZ l).length = k + 1 := by rw [stripZ_length, ← Hs.out]; simp only [stripLen]; rw [if_neg H48.out]
        refine ⟨rfl, ?_, ho.drewN _⟩
        rw [e, trimDp, if_neg (by omega)]
        exact hd.drewN _
end Go.Proofs.YtfbgnonnbcejkaaGreatDoor
namespace Go.Proofs.YtfbgnonnbcejkaaGreatDoor
open Go.RowKit

theorem prefixLess_step (D : List UInt8) (s : ByteArray) (k : Nat) (h1 : k < D.length) (h2 : k < s.size) :
    prefixLess (D.drop k) (s.data.toList.drop k) = if D.getD k 0 = s[k] then prefixLess (D.drop (k + 1)) (s.data.toList.drop (k + 1)) else decide ((D.getD k 0).toNat < s[k].toNat) := by
  have h3 : k < s.data.toList.length := by simpa using h2
  rw [List.drop_eq_getElem_cons h1, List.drop_eq_getElem_cons h3, prefixLess]
  have e1 : D.getD k 0 = D[k] := by rw [List.getD_eq_getElem?_getD, List.getElem?_eq_getElem h1]; rfl
  have e2 : s[k] = s.data.toList[k] := by simp; rfl
  rw [e1, e2]
set_option maxHeartbeats 1600000 in
theorem prefixLess_c (a c : Nat) (D : List UInt8) (s : ByteArray) (w : World) (hD : D.length ≤ 1000) (h : ReadsB w a 0 D) :
    Calls Tryz.prog 126 #[.slice (some ⟨a, 0, none⟩) D.length c, .string s] w fun e w' => e = .returned (.bool (prefixLess D s.data.toList)) ∧ ∃ n, w' = w.drewN n := by
  go_enter Tryz.func126, Tryz.ntmps126
  go_wp2
  go_loopw [5] (fun i wr => ∃ k : Nat, k ≤ s.size ∧ k ≤ D.length ∧ i = .int .i64 k ∧ prefixLess (D.drop k) (s.data.toList.drop k) = prefixLess D s.data.toList ∧ ∃ n, wr = w.drewN n) (fun i _ => s.size - (intOf i).toNat)
  case atStart => exact ⟨0, Nat.zero_le _, Nat.zero_le _, rfl, rfl, 0, rfl⟩
  case round =>
    obtain ⟨k, hk, hk2, rfl, hp, n, rfl⟩ := hrel
    have Hp := Lib.hid hp
    clear hp
    by_cases h1 : k < s.size
    · by_cases h2 : k < D.length
      · have hst := prefixLess_step D s k h2 h1
        have hc : w.cell? ⟨a, k, none⟩ = some (.int .u8 ((D.getD k 0).toNat : Int)) := h.at0 k h2
        generalize hb : D.getD k 0 = b at hst hc
        have Hb := Lib.hid hb
        clear hb
        by_cases he : b = s[k]
        · have hne : (((b.toNat : Nat) : Int) != ((s[k].toNat : Nat) : Int)) = false := by rw [he]; simp
          rw [if_pos he] at hst
          have Hst := Lib.hid hst
          clear hst he
          go_wp2
          go_quiet (fail)
          go_wp2
          go_roundw
          case rel => exact ⟨k + 1, by omega, by omega, by go_num, by rw [← Hp.out, Hst.out], _, rfl⟩
          case measure => simp [intOf]; omega
        · have hne : (((b.toNat : Nat) : Int) != ((s[k].toNat : Nat) : Int)) = true := by
            rw [bne_iff_ne]; intro e; exact he (UInt8.toNat_inj.1 (by omega))
          rw [if_neg he] at hst
          have Hst := Lib.hid hst
          clear hst he
          go_wp2
          go_quiet (fail)
          go_wp2
          go_quiet (fail)
          go_wp2
          go_ret
          refine ⟨ret_bool ?_, _, by rw [World.drewN_drewN, World.drewN_drewN]⟩
          rw [← Hp.out, Hst.out]
      · have e : k = D.length := by omega
        have Hr : Hid (prefixLess D s.data.toList = true) := by
          apply Lib.hid
          rw [← Hp.out, List.drop_eq_nil_of_le (by omega), List.drop_eq_getElem_cons (by simpa using h1)]; rfl
        clear e
        go_wp2
        go_ret
        exact ⟨ret_bool Hr.out.symm, _, rfl⟩
    · have Hr : Hid (prefixLess D s.data.toList = false) := by
        apply Lib.hid
        have e0 : s.data.toList.drop k = [] := List.drop_eq_nil_of_le (by rw [Array.length_toList]; show s.size ≤ k; omega)
        rw [← Hp.out, e0]; cases D.drop k <;> rfl
      go_wp2
      go_ret
      exact ⟨ret_bool Hr.out.symm, _, rfl⟩
end Go.Proofs.YtfbgnonnbcejkaaGreatDoor
namespace Go.Proofs.YtfbgnonnbcejkaaGreatDoor
open Go.RowKit

def trimN (c : UInt8) (l : List UInt8) : Nat → Nat
  | 0 => 0
  | n + 1 => if l.getD n 0 = c then trimN c l n else n + 1
def trimR (c : UInt8) (l : List UInt8) : List UInt8 := l.take (trimN c l l.length)
theorem trimN_le (c : UInt8) (l : List UInt8) : ∀ n, trimN c l n ≤ n
  | 0 => Nat.le_refl _
  | n + 1 => by
    have := trimN_le c l n
    unfold trimN
    split <;> omega
theorem trimR_le (c : UInt8) (l : List UInt8) : (trimR c l).length ≤ l.length := by
  unfold trimR
  rw [List.length_take]
  omega
theorem extract_take (l : List UInt8) (n : Nat) : (⟨l.toArray⟩ : ByteArray).extract 0 n = ⟨(l.take n).toArray⟩ := by
  apply ByteArray.ext
  simp [ByteArray.data_extract]
theorem size_toArray (l : List UInt8) : (⟨l.toArray⟩ : ByteArray).size = l.length := by simp [ByteArray.size]
theorem get_toArray (l : List UInt8) (k : Nat) (h : k < l.length) (h' : k < (⟨l.toArray⟩ : ByteArray).size) : (⟨l.toArray⟩ : ByteArray)[k] = l.getD k 0 := by
  rw [List.getD_eq_getElem?_getD, List.getElem?_eq_getElem h]
  rfl

set_option maxHeartbeats 1600000 in
theorem trimRight_c (l : List UInt8) (c : UInt8) (w : World) (hl : l.length ≤ 1099511627776) :
    Calls Tryz.prog 80 #[.string ⟨l.toArray⟩, .string ⟨#[c]⟩] w fun e w' => e = .returned (.string ⟨(trimR c l).toArray⟩) ∧ ∃ n, w' = w.drewN n := by
  have Hs : Hid ((⟨l.toArray⟩ : ByteArray).size = l.length) := Lib.hid (size_toArray l)
  have Hg : Hid (∀ k (h : k < (⟨l.toArray⟩ : ByteArray).size), (⟨l.toArray⟩ : ByteArray)[k] = l.getD k 0) := Lib.hid (fun k h => get_toArray l k (by rw [size_toArray] at h; exact h) h)
  have Hx : Hid (∀ n, (⟨l.toArray⟩ : ByteArray).extract 0 n = ⟨(l.take n).toArray⟩) := Lib.hid (extract_take l)
  have hs1 : (⟨#[c]⟩ : ByteArray).size = 1 := rfl
  have hg1 : ∀ (h : 0 < (⟨#[c]⟩ : ByteArray).size), (⟨#[c]⟩ : ByteArray)[0] = c := fun _ => rfl
  have hsz := Hs.out
  generalize (⟨l.toArray⟩ : ByteArray) = S at *
  generalize (⟨#[c]⟩ : ByteArray) = C at *
  go_enter Tryz.func80, Tryz.ntmps80
  go_wp2
  go_loopw [5] (fun i wr => ∃ k : Nat, k ≤ l.length ∧ i = .int .i64 k ∧ trimN c l k = trimN c l l.length ∧ ∃ n, wr = w.drewN n) (fun i _ => (intOf i).toNat)
  case atStart => exact ⟨l.length, Nat.le_refl _, rfl, rfl, 0, rfl⟩
  case round =>
    obtain ⟨k, hk, rfl, hp, n, rfl⟩ := hrel
    have Hp := Lib.hid hp
    clear hp
    by_cases h1 : 0 < k
    · obtain ⟨j, rfl⟩ : ∃ j, k = j + 1 := ⟨k - 1, by omega⟩
      have hst : trimN c l (j + 1) = if l.getD j 0 = c then trimN c l j else j + 1 := rfl
      have hjs : j < S.size := by omega
      have hgj := Hg.out j hjs
      generalize l.getD j 0 = x at hst hgj
      have Hst := Lib.hid hst
      clear hst
      go_wp2
      go_loopw [6, 7] (fun r i wx => (i = .int .i64 0 ∧ r = .bool false ∧ ∃ m, wx = w.drewN m) ∨ (i = .int .i64 1 ∧ r = .bool (decide (x = c)) ∧ ∃ m, wx = w.drewN m)) (fun _ i _ => 1 - (intOf i).toNat)
      case atStart => exact Or.inl ⟨rfl, rfl, n, rfl⟩
      case round =>
        rcases hrel with ⟨rfl, rfl, m, rfl⟩ | ⟨rfl, rfl, m, rfl⟩
        · have hlt : 0 < C.size := by omega
          have hge := hg1 hlt
          by_cases he : x = c
          · have hd : Hid (decide (x = c) = true) := Lib.hid (decide_eq_true he)
            have hne : (((c.toNat : Nat) : Int) == (((x).toNat : Nat) : Int)) = true := by rw [he]; simp
            clear he
            go_wp2
            go_quiet (fail)
            go_wp2
            go_roundw
            case rel => exact Or.inr ⟨rfl, by rw [hd.out], _, rfl⟩
            case measure => simp [intOf]
          · have hd : Hid (decide (x = c) = false) := Lib.hid (decide_eq_false he)
            have hne : (((c.toNat : Nat) : Int) == (((x).toNat : Nat) : Int)) = false := by
              rw [beq_eq_false_iff_ne]; intro e; exact he (UInt8.toNat_inj.1 (by omega))
            clear he
            go_wp2
            go_quiet (fail)
            go_wp2
            go_roundw
            case rel => exact Or.inr ⟨rfl, by rw [hd.out], _, rfl⟩
            case measure => simp [intOf]
        · by_cases he : x = c
          · have hd := decide_eq_true he
            have Hn : Hid (trimN c l (j + 1) = trimN c l j) := Lib.hid (by rw [Hst.out, if_pos he])
            clear he
            go_wp2
            go_roundw
            case rel => exact ⟨j, by omega, by go_num, by rw [← Hn.out, Hp.out], _, rfl⟩
            case measure => simp [intOf]
          · have hd := decide_eq_false he
            have Hn : Hid (trimN c l (j + 1) = j + 1) := Lib.hid (by rw [Hst.out, if_neg he])
            clear he
            have hle : j + 1 ≤ S.size := by omega
            go_wp2
            go_ret
            refine ⟨?_, _, rfl⟩
            have e1 : trimR c l = l.take (j + 1) := by rw [trimR, ← Hp.out, Hn.out]
            rw [e1, ← Hx.out]
            rfl
    · obtain rfl : k = 0 := by omega
      have hz : Hid (trimN c l 0 = 0) := Lib.hid rfl
      go_wp2
      go_ret
      refine ⟨?_, _, rfl⟩
      have e1 : trimR c l = l.take 0 := by rw [trimR, ← Hp.out, hz.out]
      rw [e1]
      rfl
end Go.Proofs.YtfbgnonnbcejkaaGreatDoor
