/- Lemmas on the way to the law FnWKTParts, without conditions beside those that each states: Decimal numbers of many digits, as strconv's decimal holds them: lists of digits, their values, and what a shift to the left makes of their length | What a shift to the left makes of the number of digits; the digits of a number one by one; trimming; the decimal's state | The arithmetic of a shift to the left, digit by digit | The arithmetic of a shift to the right, digit by digit. -/
import Derived.Lib.ItoaNum
import GoSem.PinnedTables
namespace Go.Proofs.YtfbgnonnbcejkaaGreatDoor
open Go.Lib (decDigits nDigits dg decDigits_length decDigits_eq lt_pow_nDigits nDigits_unique nDigits_pos nDigits_big nDigits_small dg_succ)

/-- A byte that is a digit. -/
def IsDig (b : UInt8) : Prop := 48 ≤ b.toNat ∧ b.toNat ≤ 57
/-- The number that digits tell. -/
def valD : List UInt8 → Nat → Nat
  | [], a => a
  | b :: l, a => valD l (a * 10 + (b.toNat - 48))
def val (l : List UInt8) : Nat := valD l 0
def AllDig (l : List UInt8) : Prop := ∀ b ∈ l, IsDig b

theorem valD_eq (l : List UInt8) : ∀ a, valD l a = a * 10 ^ l.length + val l := by
  induction l with
  | nil => intro a; simp [valD, val]
  | cons b l ih =>
    intro a
    rw [val, valD, ih, valD, ih (0 * 10 + _), List.length_cons, Nat.pow_succ]
    simp only [Nat.zero_mul, Nat.zero_add, Nat.add_mul]
    have : a * 10 * 10 ^ l.length = a * (10 ^ l.length * 10) := by rw [Nat.mul_assoc, Nat.mul_comm 10]
    omega
theorem val_nil : val [] = 0 := rfl
theorem val_cons (b : UInt8) (l : List UInt8) : val (b :: l) = (b.toNat - 48) * 10 ^ l.length + val l := by
  rw [val, valD, valD_eq, Nat.zero_mul, Nat.zero_add]
theorem val_append (a b : List UInt8) : val (a ++ b) = val a * 10 ^ b.length + val b := by
  induction a with
  | nil => simp [val_nil]
  | cons c a ih =>
    rw [List.cons_append, val_cons, ih, val_cons, List.length_append, Nat.pow_add, Nat.add_mul, ← Nat.mul_assoc]
    omega
theorem val_snoc (a : List UInt8) (b : UInt8) : val (a ++ [b]) = val a * 10 + (b.toNat - 48) := by
  rw [val_append, val_cons]; simp [val_nil]
theorem val_lt {l : List UInt8} (h : AllDig l) : val l < 10 ^ l.length := by
  induction l with
  | nil => simp [val_nil]
  | cons b l ih =>
    have h1 := ih (fun c hc => h c (List.mem_cons_of_mem _ hc))
    have h2 : IsDig b := h b (List.mem_cons_self)
    rw [val_cons, List.length_cons, Nat.pow_succ]
    have h3 : (b.toNat - 48) * 10 ^ l.length ≤ 9 * 10 ^ l.length := Nat.mul_le_mul_right _ (by unfold IsDig at h2; omega)
    omega
theorem val_ge {b : UInt8} {l : List UInt8} (hb : IsDig b) (h0 : b ≠ 48) : 10 ^ l.length ≤ val (b :: l) := by
  rw [val_cons]
  have : 1 ≤ b.toNat - 48 := by
    have : b.toNat ≠ 48 := fun e => h0 (UInt8.toNat_inj.1 e)
    unfold IsDig at hb; omega
  have := Nat.mul_le_mul_right (10 ^ l.length) this
  omega

/-- prefixIsLessThan -/
def prefixLess : List UInt8 → List UInt8 → Bool
  | _, [] => false
  | [], _ :: _ => true
  | b :: D, c :: s => if b = c then prefixLess D s else decide (b.toNat < c.toNat)

/-- No suffix of s but the empty one is all zeros. -/
def EndsWell : List UInt8 → Prop
  | [] => True
  | b :: l => 0 < val (b :: l) ∧ EndsWell l

theorem prefixLess_true : ∀ (s D : List UInt8), AllDig D → AllDig s → EndsWell s → prefixLess D s = true → val D * 10 ^ s.length < val s * 10 ^ D.length := by
  intro s
  induction s with
  | nil => intro D _ _ _ h; cases D <;> simp [prefixLess] at h
  | cons c s ih =>
    intro D hD hs he h
    cases D with
    | nil => rw [val_nil]; simpa using he.1
    | cons b D =>
      have hDD : AllDig D := fun x hx => hD x (List.mem_cons_of_mem _ hx)
      have hss : AllDig s := fun x hx => hs x (List.mem_cons_of_mem _ hx)
      have hb : IsDig b := hD b List.mem_cons_self
      have hc : IsDig c := hs c List.mem_cons_self
      have lD := val_lt hDD
      unfold prefixLess at h
      simp only [val_cons, List.length_cons, Nat.pow_succ]
      split at h
      · rename_i e; subst e
        have := ih D hDD hss he.2 h
        have e1 : ((b.toNat - 48) * 10 ^ D.length + val D) * (10 ^ s.length * 10) = ((b.toNat - 48) * (10 ^ D.length * 10 ^ s.length)) * 10 + (val D * 10 ^ s.length) * 10 := by
          rw [Nat.add_mul, ← Nat.mul_assoc, ← Nat.mul_assoc, Nat.mul_assoc (b.toNat - 48)]
        have e2 : ((b.toNat - 48) * 10 ^ s.length + val s) * (10 ^ D.length * 10) = ((b.toNat - 48) * (10 ^ D.length * 10 ^ s.length)) * 10 + (val s * 10 ^ D.length) * 10 := by
          rw [Nat.add_mul, ← Nat.mul_assoc, ← Nat.mul_assoc, Nat.mul_assoc (b.toNat - 48), Nat.mul_comm (10 ^ s.length)]
        omega
      · have hlt : b.toNat < c.toNat := by simpa using h
        unfold IsDig at hb hc
        have h1 : (b.toNat - 48) * 10 ^ D.length + val D < (c.toNat - 48) * 10 ^ D.length := by
          have : (b.toNat - 48 + 1) * 10 ^ D.length ≤ (c.toNat - 48) * 10 ^ D.length := Nat.mul_le_mul_right _ (by omega)
          rw [Nat.add_mul, Nat.one_mul] at this
          omega
        have h2 : ((b.toNat - 48) * 10 ^ D.length + val D) * (10 ^ s.length * 10) < ((c.toNat - 48) * 10 ^ D.length) * (10 ^ s.length * 10) :=
          Nat.mul_lt_mul_of_pos_right h1 (by have := Nat.pow_pos (n := s.length) (show 0 < 10 by decide); omega)
        have h3 : ((c.toNat - 48) * 10 ^ D.length) * (10 ^ s.length * 10) = ((c.toNat - 48) * 10 ^ s.length) * (10 ^ D.length * 10) := by
          rw [Nat.mul_assoc, Nat.mul_assoc, ← Nat.mul_assoc (10 ^ D.length), ← Nat.mul_assoc (10 ^ s.length), Nat.mul_comm (10 ^ D.length)]
        have h4 : ((c.toNat - 48) * 10 ^ s.length) * (10 ^ D.length * 10) ≤ ((c.toNat - 48) * 10 ^ s.length + val s) * (10 ^ D.length * 10) := Nat.mul_le_mul_right _ (Nat.le_add_right _ _)
        omega

theorem prefixLess_false : ∀ (s D : List UInt8), AllDig D → AllDig s → prefixLess D s = false → val s * 10 ^ D.length ≤ val D * 10 ^ s.length := by
  intro s
  induction s with
  | nil => intro D _ _ _; rw [val_nil]; simp
  | cons c s ih =>
    intro D hD hs h
    cases D with
    | nil => simp [prefixLess] at h
    | cons b D =>
      have hDD : AllDig D := fun x hx => hD x (List.mem_cons_of_mem _ hx)
      have hss : AllDig s := fun x hx => hs x (List.mem_cons_of_mem _ hx)
      have hb : IsDig b := hD b List.mem_cons_self
      have hc : IsDig c := hs c List.mem_cons_self
      have lS := val_lt hss
      unfold prefixLess at h
      simp only [val_cons, List.length_cons, Nat.pow_succ]
      split at h
      · rename_i e; subst e
        have := ih D hDD hss h
        have e1 : ((b.toNat - 48) * 10 ^ D.length + val D) * (10 ^ s.length * 10) = ((b.toNat - 48) * (10 ^ D.length * 10 ^ s.length)) * 10 + (val D * 10 ^ s.length) * 10 := by
          rw [Nat.add_mul, ← Nat.mul_assoc, ← Nat.mul_assoc, Nat.mul_assoc (b.toNat - 48)]
        have e2 : ((b.toNat - 48) * 10 ^ s.length + val s) * (10 ^ D.length * 10) = ((b.toNat - 48) * (10 ^ D.length * 10 ^ s.length)) * 10 + (val s * 10 ^ D.length) * 10 := by
          rw [Nat.add_mul, ← Nat.mul_assoc, ← Nat.mul_assoc, Nat.mul_assoc (b.toNat - 48), Nat.mul_comm (10 ^ s.length)]
        omega
      · rename_i e
        have hge : c.toNat ≤ b.toNat := by simpa using h
        have hne : c.toNat ≠ b.toNat := fun q => e (UInt8.toNat_inj.1 q.symm)
        unfold IsDig at hb hc
        have h1 : (c.toNat - 48) * 10 ^ s.length + val s < (b.toNat - 48) * 10 ^ s.length := by
          have : (c.toNat - 48 + 1) * 10 ^ s.length ≤ (b.toNat - 48) * 10 ^ s.length := Nat.mul_le_mul_right _ (by omega)
          rw [Nat.add_mul, Nat.one_mul] at this
          omega
        have h2 : ((c.toNat - 48) * 10 ^ s.length + val s) * (10 ^ D.length * 10) ≤ ((b.toNat - 48) * 10 ^ s.length) * (10 ^ D.length * 10) := Nat.mul_le_mul_right _ (Nat.le_of_lt h1)
        have h3 : ((b.toNat - 48) * 10 ^ D.length) * (10 ^ s.length * 10) = ((b.toNat - 48) * 10 ^ s.length) * (10 ^ D.length * 10) := by
          rw [Nat.mul_assoc, Nat.mul_assoc, ← Nat.mul_assoc (10 ^ D.length), ← Nat.mul_assoc (10 ^ s.length), Nat.mul_comm (10 ^ D.length)]
        have h4 : ((b.toNat - 48) * 10 ^ D.length) * (10 ^ s.length * 10) ≤ ((b.toNat - 48) * 10 ^ D.length + val D) * (10 ^ s.length * 10) := Nat.mul_le_mul_right _ (Nat.le_add_right _ _)
        omega

/-- The rows of the cheat sheet: how many digits a shift adds, and the digits below which it adds one less. -/
def cheatD (k : Nat) : Nat := (Go.Pinned.cheatRows.getD k (0, [])).1
def cheatS (k : Nat) : List UInt8 := (Go.Pinned.cheatRows.getD k (0, [])).2
instance (l : List UInt8) : Decidable (AllDig l) := inferInstanceAs (Decidable (∀ b ∈ l, 48 ≤ b.toNat ∧ b.toNat ≤ 57))
instance decEndsWell : (l : List UInt8) → Decidable (EndsWell l)
  | [] => isTrue trivial
  | b :: l => @instDecidableAnd _ _ (inferInstanceAs (Decidable (0 < val (b :: l)))) (decEndsWell l)
theorem cheat_all : ∀ k : Fin 60, AllDig (cheatS (k.val + 1)) ∧ EndsWell (cheatS (k.val + 1)) ∧ val (cheatS (k.val + 1)) = 5 ^ (k.val + 1) ∧ cheatD (k.val + 1) + (cheatS (k.val + 1)).length = k.val + 1 + 1 ∧ (cheatS (k.val + 1)).length ≤ k.val + 1 ∧
    5 ^ (k.val + 1) < 10 ^ (cheatS (k.val + 1)).length ∧ 10 ^ (cheatS (k.val + 1)).length ≤ 5 ^ (k.val + 1) * 10 ∧ cheatD (k.val + 1) ≤ 19 ∧ 1 ≤ cheatD (k.val + 1) := by decide +kernel
end Go.Proofs.YtfbgnonnbcejkaaGreatDoor
namespace Go.Proofs.YtfbgnonnbcejkaaGreatDoor
open Go.Lib (decDigits nDigits dg decDigits_length decDigits_eq lt_pow_nDigits nDigits_unique nDigits_pos nDigits_big nDigits_small dg_succ)

theorem ten_pow_split (k : Nat) : 2 ^ k * 5 ^ k = 10 ^ k := by rw [← Nat.mul_pow]

theorem cheat_row (k : Nat) (h1 : 1 ≤ k) (h60 : k ≤ 60) : AllDig (cheatS k) ∧ EndsWell (cheatS k) ∧ val (cheatS k) = 5 ^ k ∧ cheatD k + (cheatS k).length = k + 1 ∧ (cheatS k).length ≤ k ∧
    5 ^ k < 10 ^ (cheatS k).length ∧ 10 ^ (cheatS k).length ≤ 5 ^ k * 10 ∧ cheatD k ≤ 19 ∧ 1 ≤ cheatD k := by
  obtain ⟨j, rfl⟩ : ∃ j, k = j + 1 := ⟨k - 1, by omega⟩
  exact cheat_all ⟨j, by omega⟩

/-- How many digits more a shift by k makes. -/
def deltaF (k : Nat) (D : List UInt8) : Nat := cheatD k - (if prefixLess D (cheatS k) then 1 else 0)

theorem shift_len (k : Nat) (h1 : 1 ≤ k) (h60 : k ≤ 60) (b : UInt8) (D : List UInt8) (hD : AllDig (b :: D)) (hb : b ≠ 48) :
    nDigits (val (b :: D) * 2 ^ k) = (b :: D).length + deltaF k (b :: D) := by
  obtain ⟨c1, c2, c3, c4, c5, c6, c7, c8, c9⟩ := cheat_row k h1 h60
  have hlo := val_ge (l := D) (hD b List.mem_cons_self) hb
  have hhi := val_lt hD
  have ht := prefixLess_true (cheatS k) _ hD c1 c2
  have hf := prefixLess_false (cheatS k) _ hD c1
  rw [c3] at ht hf
  simp only [List.length_cons] at *
  generalize val (b :: D) = n at *
  generalize hL : (cheatS k).length = L at *
  have hT : 0 < 10 ^ L := Nat.pow_pos (by decide)
  have h2k : 0 < 2 ^ k := Nat.pow_pos (by decide)
  have hsp := ten_pow_split k
  unfold deltaF
  cases hp : prefixLess (b :: D) (cheatS k) with
  | true =>
    have hlt := ht hp
    rw [show D.length + 1 + (cheatD k - if true = true then 1 else 0) = (D.length + k - L) + 1 by rw [if_pos rfl]; omega]
    refine nDigits_unique _ _ ?_ ?_
    · refine Nat.le_of_mul_le_mul_right (?_ : 10 ^ (D.length + k - L) * 10 ^ L ≤ n * 2 ^ k * 10 ^ L) hT
      rw [← Nat.pow_add, show D.length + k - L + L = D.length + k by omega, Nat.pow_add, ← hsp]
      calc 10 ^ D.length * (2 ^ k * 5 ^ k) ≤ n * (2 ^ k * 10 ^ L) := Nat.mul_le_mul hlo (Nat.mul_le_mul_left _ (Nat.le_of_lt c6))
        _ = n * 2 ^ k * 10 ^ L := (Nat.mul_assoc _ _ _).symm
    · refine Nat.lt_of_mul_lt_mul_right (a := 10 ^ L) (?_ : n * 2 ^ k * 10 ^ L < 10 ^ (D.length + k - L + 1) * 10 ^ L)
      rw [← Nat.pow_add, show D.length + k - L + 1 + L = k + (D.length + 1) by omega, Nat.pow_add, ← hsp]
      calc n * 2 ^ k * 10 ^ L = 2 ^ k * (n * 10 ^ L) := by rw [Nat.mul_comm n, Nat.mul_assoc]
        _ < 2 ^ k * (5 ^ k * 10 ^ (D.length + 1)) := Nat.mul_lt_mul_of_pos_left hlt h2k
        _ = 2 ^ k * 5 ^ k * 10 ^ (D.length + 1) := (Nat.mul_assoc _ _ _).symm
  | false =>
    have hge := hf hp
    rw [show D.length + 1 + (cheatD k - if false = true then 1 else 0) = (D.length + 1 + k - L) + 1 by rw [if_neg (by decide)]; omega]
    refine nDigits_unique _ _ ?_ ?_
    · refine Nat.le_of_mul_le_mul_right (?_ : 10 ^ (D.length + 1 + k - L) * 10 ^ L ≤ n * 2 ^ k * 10 ^ L) hT
      rw [← Nat.pow_add, show D.length + 1 + k - L + L = k + (D.length + 1) by omega, Nat.pow_add, ← hsp]
      calc 2 ^ k * 5 ^ k * 10 ^ (D.length + 1) = 2 ^ k * (5 ^ k * 10 ^ (D.length + 1)) := Nat.mul_assoc _ _ _
        _ ≤ 2 ^ k * (n * 10 ^ L) := Nat.mul_le_mul_left _ hge
        _ = n * 2 ^ k * 10 ^ L := by rw [Nat.mul_left_comm, Nat.mul_assoc]
    · refine Nat.lt_of_mul_lt_mul_right (a := 10 ^ L) (?_ : n * 2 ^ k * 10 ^ L < 10 ^ (D.length + 1 + k - L + 1) * 10 ^ L)
      rw [← Nat.pow_add, show D.length + 1 + k - L + 1 + L = (D.length + 1) + (k + 1) by omega, Nat.pow_add 10 (D.length + 1), Nat.pow_succ 10 k, ← hsp]
      calc n * 2 ^ k * 10 ^ L = n * (2 ^ k * 10 ^ L) := Nat.mul_assoc _ _ _
        _ < 10 ^ (D.length + 1) * (2 ^ k * 10 ^ L) := Nat.mul_lt_mul_of_pos_right hhi (Nat.mul_pos h2k hT)
        _ ≤ 10 ^ (D.length + 1) * (2 ^ k * 5 ^ k * 10) := Nat.mul_le_mul_left _ (by rw [Nat.mul_assoc]; exact Nat.mul_le_mul_left _ c7)
end Go.Proofs.YtfbgnonnbcejkaaGreatDoor
namespace Go.Proofs.YtfbgnonnbcejkaaGreatDoor
open Go.Lib (decDigits nDigits dg decDigits_length decDigits_eq lt_pow_nDigits nDigits_unique nDigits_pos nDigits_big nDigits_small dg_succ)

/-- One step of the first loop: the number that is left, and its last digit. -/
theorem left_step (k : Nat) (A d n R : Nat) (hR : R = (A * 10 + d) * 2 ^ k + n) :
    R % 10 = (n + d * 2 ^ k) % 10 ∧ R / 10 = A * 2 ^ k + (n + d * 2 ^ k) / 10 := by
  have e : (A * 10 + d) * 2 ^ k + n = (n + d * 2 ^ k) + 10 * (A * 2 ^ k) := by
    rw [Nat.add_mul, Nat.mul_right_comm, Nat.mul_comm _ 10]; omega
  rw [hR, e]
  generalize n + d * 2 ^ k = m
  generalize A * 2 ^ k = q
  omega
theorem carry_bound (k d n : Nat) (hn : n < 2 ^ k) (hd : d ≤ 9) : n + d * 2 ^ k < 10 * 2 ^ k ∧ (n + d * 2 ^ k) / 10 < 2 ^ k := by
  have : d * 2 ^ k ≤ 9 * 2 ^ k := Nat.mul_le_mul_right _ hd
  omega
theorem pow60 (k : Nat) (h : k ≤ 60) : 2 ^ k ≤ 1152921504606846976 := by
  have := Nat.pow_le_pow_right (show 0 < 2 by decide) h
  have e : (2 : Nat) ^ 60 = 1152921504606846976 := by decide
  omega
/-- The flag, behind so many digits from the right. -/
def trAcc (tr : Bool) (X m : Nat) : Nat → Bool
  | 0 => tr
  | p + 1 => if 800 ≤ m - 1 - p ∧ X / 10 ^ p % 10 ≠ 0 then true else trAcc tr X m p
theorem div_pow_succ (X p : Nat) : X / 10 ^ (p + 1) = X / 10 ^ p / 10 := by rw [Nat.pow_succ, Nat.div_div_eq_div_mul]
theorem div_pos_iff (X p : Nat) (hX : 0 < X) : 0 < X / 10 ^ p ↔ p < nDigits X := by
  have hlt := lt_pow_nDigits X
  have hpos := nDigits_pos X
  have hge : 10 ^ (nDigits X - 1) ≤ X := by
    rcases Nat.lt_or_ge X (10 ^ (nDigits X - 1)) with h | h
    · exfalso
      have : ∀ m, X < 10 ^ m → nDigits X ≤ m ∨ m = 0 := by
        intro m
        induction m with
        | zero => intro _; exact Or.inr rfl
        | succ m ih =>
          intro hm
          left
          rcases Nat.lt_or_ge X (10 ^ m) with h' | h'
          · rcases ih h' with h'' | h''
            · omega
            · subst h''; simp at h'; omega
          · rw [nDigits_unique m X h' hm]; exact Nat.le_refl _
      rcases this _ h with h' | h'
      · omega
      · rw [h'] at h; simp at h; omega
    · exact h
  rw [Nat.div_pos_iff]
  constructor
  · rintro ⟨_, h⟩
    rcases Nat.lt_or_ge p (nDigits X) with h' | h'
    · exact h'
    · exfalso
      have := Nat.pow_le_pow_right (show 0 < 10 by decide) h'
      omega
  · intro h
    exact ⟨Nat.pow_pos (by decide), Nat.le_trans (Nat.pow_le_pow_right (by decide) (by omega)) hge⟩
theorem dg_toNat (u j : Nat) : (dg u j).toNat = 48 + u / 10 ^ j % 10 := by
  unfold dg
  rw [UInt8.toNat_ofNat']
  have := Nat.mod_lt (u / 10 ^ j) (show 0 < 10 by decide)
  omega
theorem decDigits_get (X i : Nat) (hi : i < nDigits X) : (decDigits X).getD i 0 = dg X (nDigits X - 1 - i) := by
  rw [decDigits_eq]
  simp [List.getD, List.getElem?_map, List.getElem?_range hi]
theorem dg_isDig (u j : Nat) : IsDig (dg u j) := by
  unfold IsDig; rw [dg_toNat]
  have := Nat.mod_lt (u / 10 ^ j) (show 0 < 10 by decide)
  omega
theorem decDigits_dig (X : Nat) : AllDig (decDigits X) := by
  intro b hb
  rw [decDigits_eq] at hb
  simp only [List.mem_map] at hb
  obtain ⟨t, _, rfl⟩ := hb
  exact dg_isDig _ _
/-- The first digit is no zero. -/
theorem decDigits_head (X : Nat) (hX : 0 < X) : ∃ b l, decDigits X = b :: l ∧ b ≠ 48 := by
  have hp := nDigits_pos X
  have hg := decDigits_get X 0 (by omega)
  cases hd : decDigits X with
  | nil => have := decDigits_length X; rw [hd] at this; simp at this; omega
  | cons b l =>
    refine ⟨b, l, rfl, fun e => ?_⟩
    rw [hd, e] at hg
    have h2 := dg_toNat X (nDigits X - 1 - 0)
    rw [← hg] at h2
    have h3 : X / 10 ^ (nDigits X - 1 - 0) % 10 = 0 := by
      have h4 : ((48 : UInt8) :: l).getD 0 0 = 48 := rfl
      rw [h4] at h2
      have : (48 : UInt8).toNat = 48 := rfl
      omega
    have h5 := (div_pos_iff X (nDigits X - 1 - 0) hX).2 (by omega)
    have h6 : X / 10 ^ (nDigits X - 1 - 0) < 10 := by
      rw [Nat.div_lt_iff_lt_mul (Nat.pow_pos (by decide))]
      have := lt_pow_nDigits X
      rw [show nDigits X = (nDigits X - 1 - 0) + 1 by omega, Nat.pow_succ, Nat.mul_comm] at this
      exact this
    omega

/-- What a shift to the left by k makes of the digits, the point, the flag. -/
def leftL (k : Nat) (D : List UInt8) : List UInt8 := (decDigits (val D * 2 ^ k)).take 800
def leftTr (k : Nat) (D : List UInt8) (tr : Bool) : Bool := trAcc tr (val D * 2 ^ k) (D.length + deltaF k D) (D.length + deltaF k D)
end Go.Proofs.YtfbgnonnbcejkaaGreatDoor
namespace Go.Proofs.YtfbgnonnbcejkaaGreatDoor

/-- The least number below a bound that a test takes. -/
def least (p : Nat → Bool) (b : Nat) : Nat := ((List.range b).find? p).getD b
theorem least_eq (p : Nat → Bool) (b i : Nat) (hi : i < b) (hp : p i = true) (hn : ∀ j, j < i → p j = false) : least p b = i := by
  unfold least
  have : (List.range b).find? p = some i := by
    rw [List.find?_range_eq_some]
    exact ⟨hp, List.mem_range.2 hi, fun j hj => by rw [hn j hj]; rfl⟩
  rw [this]; rfl
/-- The digit at a place; none is zero. -/
def exD (D : List UInt8) (j : Nat) : Nat := if j < D.length then (D.getD j 0).toNat - 48 else 0
/-- The number that the first r digits tell, with zeros behind the last. -/
def preV (D : List UInt8) : Nat → Nat
  | 0 => 0
  | r + 1 => preV D r * 10 + exD D r
/-- How many digits come in ahead of the first that goes out. -/
def rsR (k : Nat) (D : List UInt8) : Nat := least (fun r => decide (2 ^ k ≤ preV D r)) 30
/-- What stands ahead of the digit i that goes out. -/
def rsN (k : Nat) (D : List UInt8) (R : Nat) : Nat → Nat
  | 0 => preV D R
  | i + 1 => rsN k D R i % 2 ^ k * 10 + exD D (R + i)
def rsOut (k : Nat) (D : List UInt8) (R i : Nat) : UInt8 := UInt8.ofNat (48 + rsN k D R i / 2 ^ k)
/-- How many digits go out, at most 800 kept. -/
def rsT (k : Nat) (D : List UInt8) (R : Nat) : Nat := least (fun i => decide (D.length ≤ R + i ∧ rsN k D R i = 0)) 900
def rsTr (k : Nat) (D : List UInt8) (R : Nat) (tr : Bool) : Nat → Bool
  | 0 => tr
  | i + 1 => if 800 ≤ i ∧ rsN k D R i / 2 ^ k ≠ 0 then true else rsTr k D R tr i
/-- What a shift to the right by k makes of the digits. -/
def rightL (k : Nat) (D : List UInt8) : List UInt8 := (List.range (min 800 (rsT k D (rsR k D)))).map (rsOut k D (rsR k D))
def rightTr (k : Nat) (D : List UInt8) (tr : Bool) : Bool := rsTr k D (rsR k D) tr (rsT k D (rsR k D))

theorem exD_le (D : List UInt8) (hD : AllDig D) (j : Nat) : exD D j ≤ 9 := by
  unfold exD
  split
  · rename_i h
    have : IsDig (D.getD j 0) := by
      rw [List.getD_eq_getElem?_getD, List.getElem?_eq_getElem h]
      exact hD _ (List.getElem_mem h)
    unfold IsDig at this
    omega
  · omega
theorem preV_grow (D : List UInt8) (r : Nat) : preV D r * 10 ≤ preV D (r + 1) := by simp only [preV]; omega
theorem preV_ge (b : UInt8) (D : List UInt8) (hb : IsDig b) (h0 : b ≠ 48) : ∀ r, 10 ^ r ≤ preV (b :: D) (r + 1)
  | 0 => by
    have : b.toNat ≠ 48 := fun e => h0 (UInt8.toNat_inj.1 e)
    unfold IsDig at hb
    simp [preV, exD]; omega
  | r + 1 => by
    have h1 := preV_ge b D hb h0 r
    have h2 := preV_grow (b :: D) (r + 1)
    rw [Nat.pow_succ]; omega
/-- The first step's number is found within twenty digits. -/
theorem rs_below (k : Nat) (h60 : k ≤ 60) (b : UInt8) (D : List UInt8) (hb : IsDig b) (h0 : b ≠ 48) (r : Nat) (h : ∀ j, j < r → preV (b :: D) j < 2 ^ k) : r ≤ 20 := by
  rcases Nat.lt_or_ge 20 r with h' | h'
  · exfalso
    have h1 : preV (b :: D) (19 + 1) < 2 ^ k := h 20 h'
    have h2 := preV_ge b D hb h0 19
    have h3 := pow60 k h60
    have : (10 : Nat) ^ 19 = 10000000000000000000 := by decide
    omega
  · exact h'
theorem rsR_eq (k : Nat) (D : List UInt8) (r : Nat) (hr : r ≤ 20) (h : 2 ^ k ≤ preV D r) (hn : ∀ j, j < r → preV D j < 2 ^ k) : rsR k D = r := by
  refine least_eq _ _ _ (by omega) (by simpa using h) fun j hj => ?_
  have := hn j hj
  simp; omega
/-- Each number ahead of a digit is below ten times the power. -/
theorem rsN_lt (k : Nat) (D : List UInt8) (hD : AllDig D) (R : Nat) (hR : preV D R < 10 * 2 ^ k) : ∀ i, rsN k D R i < 10 * 2 ^ k
  | 0 => hR
  | i + 1 => by
    have h1 := exD_le D hD (R + i)
    have h2 := Nat.mod_lt (rsN k D R i) (show 0 < 2 ^ k from Nat.pow_pos (by decide))
    simp only [rsN]; omega
theorem rsOut_toNat (k : Nat) (D : List UInt8) (R i : Nat) (h : rsN k D R i < 10 * 2 ^ k) : (rsOut k D R i).toNat = 48 + rsN k D R i / 2 ^ k ∧ rsN k D R i / 2 ^ k ≤ 9 := by
  have h1 : rsN k D R i / 2 ^ k < 10 := (Nat.div_lt_iff_lt_mul (Nat.pow_pos (by decide))).2 h
  unfold rsOut
  rw [UInt8.toNat_ofNat']
  generalize rsN k D R i / 2 ^ k = q at *
  omega
/-- Behind the last digit that comes in, each step takes one power of two. -/
theorem rsN_dvd (k : Nat) (D : List UInt8) (R M : Nat) (hM : D.length ≤ R + M) : ∀ t, t ≤ k → 2 ^ t ∣ rsN k D R (M + t)
  | 0, _ => by rw [Nat.pow_zero]; exact Nat.one_dvd _
  | t + 1, ht => by
    have h1 := rsN_dvd k D R M hM t (by omega)
    have e : rsN k D R (M + (t + 1)) = rsN k D R (M + t) % 2 ^ k * 10 := by
      show rsN k D R (M + t) % 2 ^ k * 10 + exD D (R + (M + t)) = _
      rw [exD, if_neg (by omega)]; rfl
    rw [e]
    have h2 : 2 ^ t ∣ rsN k D R (M + t) % 2 ^ k := (Nat.dvd_mod_iff (Nat.pow_dvd_pow 2 (by omega))).2 h1
    obtain ⟨c, hc⟩ := h2
    rw [hc]
    exact ⟨c * 5, by rw [Nat.pow_succ, Nat.mul_assoc, Nat.mul_assoc]; congr 1; omega⟩
theorem rsN_zero (k : Nat) (D : List UInt8) (R M : Nat) (hM : D.length ≤ R + M) : rsN k D R (M + k + 1) = 0 := by
  have h1 := rsN_dvd k D R M hM k (Nat.le_refl _)
  show rsN k D R (M + k) % 2 ^ k * 10 + exD D (R + (M + k)) = 0
  rw [Nat.mod_eq_zero_of_dvd h1, exD, if_neg (by omega)]
theorem rsN_stays (k : Nat) (D : List UInt8) (R i : Nat) (hM : D.length ≤ R + i) (h : rsN k D R i = 0) : ∀ t, rsN k D R (i + t) = 0
  | 0 => h
  | t + 1 => by
    show rsN k D R (i + t) % 2 ^ k * 10 + exD D (R + (i + t)) = 0
    rw [rsN_stays k D R i hM h t, exD, if_neg (by omega)]
    simp
theorem rsT_eq (k : Nat) (h60 : k ≤ 60) (D : List UInt8) (hl : D.length ≤ 800) (R i : Nat) (hi : D.length ≤ R + i) (h : rsN k D R i = 0) (hn : ∀ j, j < i → D.length ≤ R + j → rsN k D R j ≠ 0) : rsT k D R = i := by
  have hb : i < 900 := by
    rcases Nat.lt_or_ge i 900 with h' | h'
    · exact h'
    · exfalso
      have h1 := rsN_zero k D R (D.length - R) (by omega)
      exact hn (D.length - R + k + 1) (by omega) (by omega) h1
  refine least_eq _ _ _ hb (by simpa using ⟨hi, h⟩) fun j hj => ?_
  simp only [decide_eq_false_iff_not]
  rintro ⟨h1, h2⟩
  exact hn j hj h1 h2
end Go.Proofs.YtfbgnonnbcejkaaGreatDoor
