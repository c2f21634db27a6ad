import Derived.Test.Qxb6616081aKeys
namespace Go.Proofs.Qxb6616081a
open Go.RowKit

theorem and_pow (K i : Nat) : K &&& 2 ^ i = if K.testBit i then 2 ^ i else 0 := by
  apply Nat.eq_of_testBit_eq
  intro j
  rw [Nat.testBit_and, Nat.testBit_two_pow]
  by_cases h : i = j
  · subst h
    cases hb : K.testBit i <;> simp
  · cases hb : K.testBit i <;> simp [h]

theorem pow_and (K i : Nat) : 2 ^ i &&& K = if K.testBit i then 2 ^ i else 0 := by rw [Nat.and_comm, and_pow]

theorem tb_lt {a j : Nat} (ha : a < 18446744073709551616) (h : a.testBit j = true) : j < 64 := by
  rcases Nat.lt_or_ge j 64 with h1 | h1
  · exact h1
  · rw [Nat.testBit_lt_two_pow (Nat.lt_of_lt_of_le (show a < 2 ^ 64 from ha) (Nat.pow_le_pow_right (by omega) h1))] at h
    cases h

theorem tb_not {b j : Nat} (hb : b < 18446744073709551616) : (18446744073709551615 - b).testBit j = (decide (j < 64) && !b.testBit j) := by
  have := Nat.testBit_two_pow_sub_succ (n := 64) (x := b) hb j
  rw [← this]
  congr 1
  omega

theorem exists_bit {x : Nat} (h : x ≠ 0) : ∃ j, x.testBit j = true := Nat.exists_testBit_of_ne_zero h

theorem sub_iff {a b : Nat} (ha : a < 18446744073709551616) (hb : b < 18446744073709551616) : sub a b = true ↔ ∀ j, a.testBit j = true → b.testBit j = true := by
  unfold sub
  rw [beq_iff_eq]
  constructor
  · intro h j hj
    have h1 : (a &&& (18446744073709551615 - b)).testBit j = false := by rw [h]; simp
    rw [Nat.testBit_and, tb_not hb, hj, decide_eq_true (tb_lt ha hj)] at h1
    simpa using h1
  · intro h
    apply Nat.eq_of_testBit_eq
    intro j
    rw [Nat.testBit_and, tb_not hb]
    cases hj : a.testBit j with
    | false => simp
    | true => simp [h j hj]

theorem meets_iff {a b : Nat} : meets a b = true ↔ ∃ j, a.testBit j = true ∧ b.testBit j = true := by
  unfold meets
  rw [bne_iff_ne]
  constructor
  · intro h
    obtain ⟨j, hj⟩ := exists_bit h
    rw [Nat.testBit_and, Bool.and_eq_true] at hj
    exact ⟨j, hj⟩
  · rintro ⟨j, h1, h2⟩ h
    have h3 : (a &&& b).testBit j = true := by rw [Nat.testBit_and, h1, h2]; rfl
    rw [h] at h3
    simp at h3

/-- What the loops hold behind i rounds. -/
def anyUp (p : Nat → Bool) : Nat → Bool
  | 0 => false
  | i + 1 => anyUp p i || p i
def allUp (p : Nat → Bool) : Nat → Bool
  | 0 => true
  | i + 1 => allUp p i && p i

theorem anyUp_iff (p : Nat → Bool) : ∀ i, anyUp p i = true ↔ ∃ j, j < i ∧ p j = true
  | 0 => by simp [anyUp]
  | i + 1 => by
    rw [anyUp, Bool.or_eq_true, anyUp_iff p i]
    constructor
    · rintro (⟨j, h1, h2⟩ | h)
      · exact ⟨j, by omega, h2⟩
      · exact ⟨i, by omega, h⟩
    · rintro ⟨j, h1, h2⟩
      by_cases e : j = i
      · subst e; exact .inr h2
      · exact .inl ⟨j, by omega, h2⟩

theorem allUp_iff (p : Nat → Bool) : ∀ i, allUp p i = true ↔ ∀ j, j < i → p j = true
  | 0 => by simp [allUp]
  | i + 1 => by
    rw [allUp, Bool.and_eq_true, allUp_iff p i]
    constructor
    · rintro ⟨h1, h2⟩ j hj
      by_cases e : j = i
      · subst e; exact h2
      · exact h1 j (by omega)
    · intro h
      exact ⟨fun j hj => h j (by omega), h i (by omega)⟩

theorem sub_pow {k i : Nat} (hi : i < 64) (hk : k < 18446744073709551616) : sub (2 ^ i) k = k.testBit i := by
  have hp : (2 : Nat) ^ i < 18446744073709551616 := by
    have : (2 : Nat) ^ i < 2 ^ 64 := Nat.pow_lt_pow_right (by omega) hi
    exact this
  rw [Bool.eq_iff_iff, sub_iff hp hk]
  constructor
  · intro h; exact h i (by rw [Nat.testBit_two_pow]; simp)
  · intro h j hj
    rw [Nat.testBit_two_pow, decide_eq_true_eq] at hj
    subst hj
    exact h

theorem meets_pow (k i : Nat) : meets k (2 ^ i) = k.testBit i := by
  unfold meets
  rw [and_pow]
  cases k.testBit i <;> simp

theorem km_one (s n t : Bool) {k i : Nat} (hi : i < 64) (hk : k < 18446744073709551616) : km s false n (2 ^ i) k t = (k.testBit i != n) := by
  cases s
  · show (sub (2 ^ i) k != n) = _
    rw [sub_pow hi hk]
  · show (meets k (2 ^ i) != n) = _
    rw [meets_pow]

theorem km_exact (t : Bool) {K i : Nat} (hi : i < 64) (hK : K < 18446744073709551616) : km true true false K (2 ^ i) t = (K.testBit i && !t) := by
  show ((2 ^ i != 0 && sub (2 ^ i) K && !t) != false) = _
  rw [sub_pow hi hK, bne_iff_ne.2 (Nat.ne_of_gt (Nat.two_pow_pos i))]
  simp

/-- the first loop's round -/
def pAny (n : Bool) (K k : Nat) (j : Nat) : Bool := K.testBit j && (k.testBit j != n)
def pAll (n : Bool) (K k : Nat) (j : Nat) : Bool := !K.testBit j || (k.testBit j != n)

theorem any_law {K k : Nat} (hK : K < 18446744073709551616) (hk : k < 18446744073709551616) (s n t : Bool) (h : (s != n) = true) : km s false n K k t = anyUp (pAny n K k) 64 := by
  cases n
  · have hs : s = true := by simpa using h
    subst hs
    show (meets k K != false) = _
    rw [Bool.bne_false, Bool.eq_iff_iff, meets_iff, anyUp_iff]
    constructor
    · rintro ⟨j, h1, h2⟩
      exact ⟨j, tb_lt hk h1, by simp [pAny, h1, h2]⟩
    · rintro ⟨j, _, h2⟩
      simp only [pAny, Bool.and_eq_true, Bool.bne_false] at h2
      exact ⟨j, h2.2, h2.1⟩
  · have hs : s = false := by simpa using h
    subst hs
    show (sub K k != true) = _
    rw [Bool.bne_true, Bool.eq_iff_iff, anyUp_iff, Bool.not_eq_true', ← Bool.not_eq_true, sub_iff hK hk]
    constructor
    · intro h1
      apply Classical.byContradiction
      intro h2
      apply h1
      intro j hj
      apply Classical.byContradiction
      intro h3
      exact h2 ⟨j, tb_lt hK hj, by simp [pAny, hj, h3]⟩
    · rintro ⟨j, _, h2⟩ h3
      simp only [pAny, Bool.and_eq_true] at h2
      rw [h3 j h2.1] at h2
      simp at h2

theorem all_law {K k : Nat} (hK : K < 18446744073709551616) (hk : k < 18446744073709551616) (s n t : Bool) (h : (s != n) = false) : km s false n K k t = allUp (pAll n K k) 64 := by
  cases n
  · have hs : s = false := by simpa using h
    subst hs
    show (sub K k != false) = _
    rw [Bool.bne_false, Bool.eq_iff_iff, sub_iff hK hk, allUp_iff]
    constructor
    · intro h j _
      cases hj : K.testBit j with
      | false => simp [pAll, hj]
      | true => simp [pAll, hj, h j hj]
    · intro h j hj
      have := h j (tb_lt hK hj)
      simpa [pAll, hj] using this
  · have hs : s = true := by simpa using h
    subst hs
    show (meets k K != true) = _
    rw [Bool.bne_true, Bool.eq_iff_iff, allUp_iff, Bool.not_eq_true', ← Bool.not_eq_true, meets_iff]
    constructor
    · intro h1 j _
      cases hj : K.testBit j with
      | false => simp [pAll, hj]
      | true =>
        cases h2 : k.testBit j with
        | false => simp [pAll, hj, h2]
        | true => exact absurd ⟨j, h2, hj⟩ h1
    · rintro h1 ⟨j, h2, h3⟩
      have := h1 j (tb_lt hk h2)
      simp [pAll, h2, h3] at this

/-- the second loop's round -/
def pEach (t : Bool) (K k : Nat) (j : Nat) : Bool := !k.testBit j || (K.testBit j && !t)

theorem each_law {K k : Nat} (hK : K < 18446744073709551616) (hk : k < 18446744073709551616) (t : Bool) : km true true false K k t = (k != 0 && allUp (pEach t K k) 64) := by
  show ((k != 0 && sub k K && !t) != false) = _
  rw [Bool.bne_false]
  by_cases h0 : k = 0
  · subst h0; simp
  · rw [bne_iff_ne.2 h0, Bool.true_and, Bool.true_and, Bool.eq_iff_iff, Bool.and_eq_true, sub_iff hk hK, allUp_iff]
    constructor
    · rintro ⟨h1, h2⟩ j _
      cases hj : k.testBit j with
      | false => simp [pEach, hj]
      | true => simp only [pEach, h1 j hj, h2]; simp
    · intro h
      have h3 : ∀ j, k.testBit j = true → K.testBit j = true ∧ (!t) = true := fun j hj => by
        have := h j (tb_lt hk hj)
        simpa [pEach, hj] using this
      obtain ⟨j, hj⟩ := exists_bit h0
      exact ⟨fun j hj => (h3 j hj).1, (h3 j hj).2⟩

theorem sym_law (K k : Nat) (t : Bool) : km false true false k K t = km false true false K k t := by
  show ((K == k && !t) != false) = ((k == K && !t) != false)
  rw [show (K == k) = (k == K) from Bool.beq_comm]

theorem none_law (K : Nat) (t : Bool) : km false true false K 0 t = (K == 0 && !t) := by
  show ((0 == K && !t) != false) = _
  rw [Bool.bne_false, show (0 == K) = (K == 0) from Bool.beq_comm]

theorem both_law {K k : Nat} (hK : K < 18446744073709551616) (hk : k < 18446744073709551616) (t : Bool) (h0 : k ≠ 0) : km false true false K k t = (km true true false K k t && km false false false K k t) := by
  show ((k == K && !t) != false) = (((k != 0 && sub k K && !t) != false) && (sub K k != false))
  rw [Bool.bne_false, Bool.bne_false, Bool.bne_false, bne_iff_ne.2 h0, Bool.true_and, Bool.eq_iff_iff]
  simp only [Bool.and_eq_true, beq_iff_eq, sub_iff hk hK, sub_iff hK hk]
  constructor
  · rintro ⟨rfl, h⟩
    exact ⟨⟨fun j h => h, h⟩, fun j h => h⟩
  · rintro ⟨⟨h1, h2⟩, h3⟩
    refine ⟨Nat.eq_of_testBit_eq fun j => ?_, h2⟩
    rw [Bool.eq_iff_iff]
    exact ⟨h1 j, h3 j⟩
end Go.Proofs.Qxb6616081a
