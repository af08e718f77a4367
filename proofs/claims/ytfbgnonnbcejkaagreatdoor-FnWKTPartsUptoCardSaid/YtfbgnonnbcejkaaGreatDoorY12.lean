/- Lemmas on the way to the law FnWKTParts, without conditions beside those that each states: A []byte of a call's own beside another row of bytes: what an append leaves of both. -/
import Derived.Test.YtfbgnonnbcejkaaGreatDoorY11
import Derived.Laws.AppendOwn
import Derived.Lib.UnsafeStr
namespace Go.Proofs.YtfbgnonnbcejkaaGreatDoor
open Go.RowKit
open Go.Lib (byteCells byteCells_length)

theorem info5 : (Tryz.prog.info? 5).map (fun i => (i.zero, i.size, i.bytes)) = some (some (.int .u8 0), 1, 1) := by kernel_rfl

/-- run_append_own, and in which block the new row lies: in the old one's, or in a new one. -/
theorem run_append_ownX {P : Program} (w : World) (base : Nat) (t ty e : TypeId) (i : TypeInfo) (z : Value) (size bytes : Nat) (ht : P.underlying t = some (.slice e)) (hi : P.info? e = some i) (hz : i.zero = some z)
    (hsize : i.size = size) (hby : i.bytes = bytes) (hzs : z.cells.size = size) (hsz : 0 < size)
    (v : Value) (n : Nat) (xs : List Value) (hown : w.ownsRow base e size v n xs)
    (a : Addr) (m c : Nat) (news : List Value) (hl : news.length = m * size) (hnews : ∀ j u, news[j]? = some u → w.cell? (a.add j) = some u) (h1 : ∀ u ∈ news, u.oneCell' = true)
    (h63 : n + m ≤ maxLen) (hbytes : (n + m) * bytes ≤ 140737488355328) (hbase : base ≤ w.heap.size) :
    ∃ v' w', (Builtin.append_ #[t, t] ty #[v, .slice (some a) m c]).run P w = .ok v' w' ∧ w'.ownsRow base e size v' (n + m) (xs ++ news) ∧ w.grownBy w' v.ownBlock ∧
      (v' = .slice none 0 0 ↔ v = .slice none 0 0 ∧ m = 0) ∧ (v'.ownBlock = v.ownBlock ∨ v'.ownBlock = some w.heap.size) := by
  obtain ⟨v', w', hr, h2, h3, h4⟩ := run_append_own (P := P) w base t ty e i z size bytes ht hi hz hsize hby hzs hsz v n xs hown a m c news hl hnews h1 h63 hbytes hbase
  refine ⟨v', w', hr, h2, h3, h4, ?_⟩
  subst hsize
  subst hby
  have hsmall : n + m ≤ 9223372036854775807 := by simp only [maxLen] at h63; omega
  rcases hown.2 with ⟨rfl, rfl⟩ | ⟨g, cap, cur, rfl, hbg, hg, hnc, hcm, hcs, htake⟩
  · by_cases hm : m = 0
    · left
      rw [h4.2 ⟨rfl, hm⟩]
    · right
      have hr2 := run_append_nil (P := P) w t ty e i z ht hi hz a m c news hl hnews (by omega) (by omega) (by have hb := hbytes; simp only [Nat.zero_add] at hb; omega)
      rw [hr] at hr2
      injection hr2 with hv _
      rw [hv]
      rfl
  · by_cases hroom : n + m ≤ cap
    · left
      have hfit : n * i.size + news.length ≤ cur.size := by rw [hl, hcs, ← Nat.add_mul]; exact Nat.mul_le_mul_right _ hroom
      have hr2 := run_append_room (P := P) w t ty e i ht hi g n cap cur hg a m c news hl hnews h1 hroom hfit
      rw [hr] at hr2
      injection hr2 with hv _
      rw [hv]
      rfl
    · right
      have holds : ∀ j u, xs[j]? = some u → w.cell? ((⟨g, 0, none⟩ : Addr).add j) = some u := hown.cells (g := g) rfl
      have hr2 := run_append_grow (P := P) w t ty e i z ht hi hz ⟨g, 0, none⟩ n cap xs hown.1 holds a m c news hl hnews (by omega) (by omega) (growslice_fits (by omega) hbytes)
      rw [hr] at hr2
      injection hr2 with hv _
      rw [hv]
      rfl

/-- A []byte of the call's own, in a block from N on that is not block k, with these bytes. -/
def OwnB (w : World) (N k : Nat) (v : Value) (l : List UInt8) : Prop := w.ownsRow N 5 1 v l.length (byteCells l) ∧ v.ownBlock ≠ some k
/-- What a call may turn that has a []byte of its own from N on, and leaves block k. -/
def FrameB (N k : Nat) (w w' : World) : Prop := Below N w w' ∧ w'.heap[k]? = w.heap[k]?
theorem FrameB.refl (N k : Nat) (w : World) : FrameB N k w w := ⟨Below.refl _ _, rfl⟩
theorem FrameB.trans {N k : Nat} {a b c : World} (h : FrameB N k a b) (h' : FrameB N k b c) : FrameB N k a c := ⟨h.1.trans h'.1, h'.2.trans h.2⟩
theorem FrameB.alloc {N k : Nat} {a w : World} (h : FrameB N k a w) (hN : N ≤ w.heap.size) (hk : k < w.heap.size) (o : Obj) : FrameB N k a (w.alloc o) :=
  ⟨h.1.alloc hN o, (Below.heap_alloc w o k hk).trans h.2⟩
theorem OwnB.alloc {w : World} {N k : Nat} {v : Value} {l : List UInt8} (h : OwnB w N k v l) (o : Obj) : OwnB (w.alloc o) N k v l := ⟨h.1.alloc o, h.2⟩
theorem OwnB.drewN {w : World} {N k : Nat} {v : Value} {l : List UInt8} (h : OwnB w N k v l) (n : Nat) : OwnB (w.drewN n) N k v l := h
theorem FrameB.drewN {N k : Nat} {a w : World} (h : FrameB N k a w) (n : Nat) : FrameB N k a (w.drewN n) := ⟨below_drewN h.1 n, h.2⟩
theorem FrameB.reads {N k : Nat} {w w' : World} (h : FrameB N k w w') {off : Nat} {l : List UInt8} (hr : ReadsB w k off l) : ReadsB w' k off l :=
  fun j hj => (World.cell?_of_block (a := ⟨k, off + j, none⟩) h.2).trans (hr j hj)
theorem OwnB.form {w : World} {N k : Nat} {v : Value} {l : List UInt8} (h : OwnB w N k v l) : ∃ ao n c, v = .slice ao n c := by
  rcases h.1.2 with ⟨rfl, _⟩ | ⟨g, cap, cur, rfl, _⟩ <;> exact ⟨_, _, _, rfl⟩

theorem byteCells_append (a b : List UInt8) : byteCells (a ++ b) = byteCells a ++ byteCells b := by simp [byteCells]
theorem byteCells_one {l : List UInt8} : ∀ u ∈ byteCells l, u.oneCell' = true := by
  intro u hu
  simp only [byteCells, List.mem_map] at hu
  obtain ⟨b, _, rfl⟩ := hu
  rfl

/-- 'append(dst, x..)' on such a []byte. -/
theorem wp_appendB {ops : Array Oper} {rest : List Oper} {o : Oper} {a : Act} {Q : Exit → Act → World → Prop} {w : World} (hgd : o.guard = none) (s x : Operand)
    (ho : o.op = .call { callee := .builtin .append, args := #[s, x], argTypes := #[93, 93] }) (N k : Nat) (v : Value) (l : List UInt8) (hs : a.eval s = v) (hown : OwnB w N k v l)
    (ad : Addr) (m c : Nat) (news : List UInt8) (hx : a.eval x = .slice (some ad) m c) (hl : news.length = m) (hnews : ∀ j, j < m → w.cell? (ad.add j) = some (u8c (news.getD j 0)))
    (hlen : l.length + m ≤ 140737488355328) (hN : N ≤ w.heap.size) (hk : k < w.heap.size)
    (h : ∀ v' w', OwnB w' N k v' (l ++ news) → FrameB N k w w' → w.grownBy w' v.ownBlock → wpList Tryz.prog ops Q rest (a.put o.dst v') w') : wpList Tryz.prog ops Q (o :: rest) a w := by
  obtain ⟨i0, hi, hz0, hz1, hz2⟩ := info_parts info5
  refine wpList_plain hgd fun K hK => ?_
  obtain ⟨v', w', hr, h2, h3, h4, h5⟩ := run_append_ownX (P := Tryz.prog) w N 93 o.type 5 i0 (.int .u8 0) 1 1 Tryz.underlying93 hi hz0 hz1 hz2 rfl (by decide) v l.length (byteCells l) hown.1 ad m c (byteCells news)
    (by rw [byteCells_length, hl, Nat.mul_one]) (fun j u hu => by
      simp only [byteCells, List.getElem?_map, Option.map_eq_some_iff] at hu
      obtain ⟨b, hb, rfl⟩ := hu
      have hj : j < news.length := (List.getElem?_eq_some_iff.1 hb).1
      rw [hnews j (by omega), List.getD_eq_getElem?_getD, hb]
      rfl) byteCells_one (by unfold maxLen; omega) (by omega) hN
  unfold Oper.wp execOp
  simp only [ho, resolve, invoke, builtin, Sem.run_bind, Sem.run_pure, Result.andThen_ok, List.map_toArray, List.map_cons, List.map_nil, hs, hx, hr]
  refine hK _ _ (h v' w' ⟨?_, ?_⟩ ⟨?_, ?_⟩ h3)
  · rw [byteCells_append, List.length_append, hl]; exact h2
  · rcases h5 with h5 | h5
    · rw [h5]; exact hown.2
    · rw [h5]; intro e; cases e; omega
  · exact (Below.refl N w).grown h3 hN (fun j hj => (hown.1.lt j hj).1)
  · exact h3.block k hk (fun e => hown.2 e.symm)

/-- 'append(dst, c)': one byte, which the statement has laid into a new block. -/
theorem wp_append1 {ops : Array Oper} {rest : List Oper} {o : Oper} {a : Act} {Q : Exit → Act → World → Prop} {w : World} (hgd : o.guard = none) (s x : Operand)
    (ho : o.op = .call { callee := .builtin .append, args := #[s, x], argTypes := #[93, 93] }) (N k : Nat) (v : Value) (l : List UInt8) (hs : a.eval s = v) (hown : OwnB w N k v l)
    (b : UInt8) (z : Int) (hz : z = (b.toNat : Int)) (c : Nat) (hx : a.eval x = .slice (some ⟨w.heap.size, 0, none⟩) 1 c) (hlen : l.length < 140737488355328) (hN : N ≤ w.heap.size) (hk : k < w.heap.size)
    (h : ∀ v' w', OwnB w' N k v' (l ++ [b]) → FrameB N k w w' → wpList Tryz.prog ops Q rest (a.put o.dst v') w') : wpList Tryz.prog ops Q (o :: rest) a (w.alloc (.cells #[.int .u8 z] 5)) := by
  subst hz
  refine wp_appendB hgd s x ho N k v l hs (hown.alloc _) _ 1 c [b] hx rfl (fun j hj => ?_) (by omega) (by simp; omega) (by simp; omega) (fun v' w' h1 h2 _ => h v' w' h1 ?_)
  · obtain rfl : j = 0 := by omega
    show (w.alloc _).cell? ⟨w.heap.size, 0, none⟩ = _
    rw [World.cell?_alloc_new]
    rfl
  · exact ((FrameB.refl N k w).alloc hN hk _).trans h2
end Go.Proofs.YtfbgnonnbcejkaaGreatDoor
