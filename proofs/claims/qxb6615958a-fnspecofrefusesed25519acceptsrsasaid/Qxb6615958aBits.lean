import Derived.Lib.BitFns
namespace Go.Proofs.Qxb6615958a

/-- How many bits v takes. -/
def blen (v : Nat) : Nat := if v = 0 then 0 else Nat.log2 v + 1

theorem blen_le (v k : Nat) : blen v ≤ k ↔ v < 2 ^ k := by
  unfold blen
  split
  · rename_i h
    subst h
    exact ⟨fun _ => Nat.two_pow_pos k, fun _ => Nat.zero_le _⟩
  · rename_i h
    rw [Nat.add_one_le_iff, Nat.log2_lt h]

theorem le_iff_eq {a b : Nat} (h : ∀ k, a ≤ k ↔ b ≤ k) : a = b := Nat.le_antisymm ((h b).2 (Nat.le_refl _)) ((h a).1 (Nat.le_refl _))

theorem blen_zero : blen 0 = 0 := rfl

theorem blen_div (v j : Nat) : blen (v / 2 ^ j) = blen v - j := by
  apply le_iff_eq
  intro k
  rw [blen_le, Nat.div_lt_iff_lt_mul (Nat.two_pow_pos j), ← Nat.pow_add, ← blen_le]
  omega

theorem blen_mul (v j : Nat) (h : v ≠ 0) : blen (v * 2 ^ j) = blen v + j := by
  have h1 := blen_div (v * 2 ^ j) j
  rw [Nat.mul_div_cancel _ (Nat.two_pow_pos j)] at h1
  have h2 : ¬ blen (v * 2 ^ j) ≤ j := by
    rw [blen_le]
    intro h3
    have : 1 * 2 ^ j ≤ v * 2 ^ j := Nat.mul_le_mul_right _ (by omega)
    omega
  omega

theorem blen_pos {v : Nat} (h : v ≠ 0) : 1 ≤ blen v := by unfold blen; rw [if_neg h]; omega

theorem blen_eq_zero {v : Nat} : blen v = 0 ↔ v = 0 := by
  constructor
  · intro h
    have := (blen_le v 0).1 (by omega)
    omega
  · rintro rfl; rfl

/-- the shelf's function is this one -/
theorem bitLenAux_eq : ∀ f x, x < 2 ^ f → Lib.bitLenAux f x = blen x
  | 0, x, h => by
    have : x = 0 := by omega
    subst this
    rfl
  | f + 1, x, h => by
    unfold Lib.bitLenAux
    split
    · rename_i h0; subst h0; rfl
    · rename_i h0
      have h1 : x / 2 < 2 ^ f := by rw [Nat.pow_succ] at h; omega
      rw [bitLenAux_eq f (x / 2) h1]
      have := blen_div x 1
      simp only [Nat.pow_one] at this
      rw [this]
      have := blen_pos h0
      omega

theorem bitLen_eq (x : Nat) (h : x < 18446744073709551616) : Lib.bitLen x = blen x := bitLenAux_eq 64 x (by simpa using h)

/-- a step of the smear -/
theorem blen_or_shift (x s : Nat) : blen (x ||| x / 2 ^ s) = blen x := by
  apply le_iff_eq
  intro k
  rw [blen_le, blen_le]
  constructor
  · intro h
    exact Nat.lt_of_le_of_lt Nat.left_le_or h
  · intro h
    exact Nat.or_lt_two_pow h (Nat.lt_of_le_of_lt (Nat.div_le_self _ _) h)

/-! ### bytes -/
/-- What the first i bytes spell, the greatest first. -/
def pre (bs : List Nat) : Nat → Nat
  | 0 => 0
  | i + 1 => pre bs i * 256 + bs.getD i 0

theorem pre_succ (bs : List Nat) (i : Nat) : pre bs (i + 1) = pre bs i * 256 + bs.getD i 0 := rfl

/-- What all spell. -/
def num (bs : List Nat) : Nat := pre bs bs.length

/-- Each byte is one. -/
def Small (bs : List Nat) : Prop := ∀ k, bs.getD k 0 < 256

theorem pre_lt {bs : List Nat} (h : Small bs) : ∀ i, pre bs i < 2 ^ (8 * i)
  | 0 => by simp [pre]
  | i + 1 => by
    have h1 := pre_lt h i
    have h2 := h i
    have e : 2 ^ (8 * (i + 1)) = 2 ^ (8 * i) * 256 := by rw [Nat.mul_add, Nat.pow_add]
    rw [e]
    unfold pre
    omega

theorem pre_div {bs : List Nat} (h : Small bs) : ∀ j i, j ≤ i → pre bs i / 2 ^ (8 * j) = pre bs (i - j)
  | 0, i, _ => by simp
  | j + 1, i, hj => by
    have e : 2 ^ (8 * (j + 1)) = 2 ^ (8 * j) * 256 := by rw [Nat.mul_add, Nat.pow_add]
    rw [e, ← Nat.div_div_eq_div_mul, pre_div h j i (by omega)]
    obtain ⟨k, hk⟩ : ∃ k, i - j = k + 1 := ⟨i - j - 1, by omega⟩
    have e2 : i - (j + 1) = k := by omega
    rw [hk, e2, pre_succ]
    have := h k
    omega

/-- word k of the number N -/
def wd (N k : Nat) : Nat := N / 2 ^ (64 * k) % 2 ^ 64

theorem wd_lt (N k : Nat) : wd N k < 18446744073709551616 := by
  have := Nat.mod_lt (N / 2 ^ (64 * k)) (Nat.two_pow_pos 64)
  unfold wd
  simpa using this

theorem wd_pre {bs : List Nat} (h : Small bs) (k : Nat) (hk : 8 * k ≤ bs.length) : wd (num bs) k = pre bs (bs.length - 8 * k) % 2 ^ 64 := by
  unfold wd num
  have := pre_div h (8 * k) bs.length hk
  rw [show 64 * k = 8 * (8 * k) by omega, this]

theorem num_small {bs : List Nat} (h : Small bs) (n : Nat) (hn : bs.length ≤ 8 * n) : num bs / 2 ^ (64 * n) = 0 := by
  have := pre_lt h bs.length
  apply Nat.div_eq_of_lt
  unfold num
  exact Nat.lt_of_lt_of_le this (Nat.pow_le_pow_right (by omega) (by omega))

/-- a full word -/
theorem pre_word {bs : List Nat} (i : Nat) (hi : 8 ≤ i) : pre bs i = pre bs (i - 8) * 18446744073709551616 + (bs.getD (i - 8) 0 * 72057594037927936 + bs.getD (i - 7) 0 * 281474976710656 + bs.getD (i - 6) 0 * 1099511627776 + bs.getD (i - 5) 0 * 4294967296 + bs.getD (i - 4) 0 * 16777216 + bs.getD (i - 3) 0 * 65536 + bs.getD (i - 2) 0 * 256 + bs.getD (i - 1) 0) := by
  obtain ⟨k, rfl⟩ : ∃ k, i = k + 8 := ⟨i - 8, by omega⟩
  simp only [pre, Nat.add_sub_cancel, show k + 8 - 7 = k + 1 from by omega, show k + 8 - 6 = k + 2 from by omega, show k + 8 - 5 = k + 3 from by omega, show k + 8 - 4 = k + 4 from by omega, show k + 8 - 3 = k + 5 from by omega, show k + 8 - 2 = k + 6 from by omega, show k + 8 - 1 = k + 7 from by omega]
  omega

theorem word_eq {bs : List Nat} (h : Small bs) (i : Nat) (hi : 8 ≤ i) : pre bs i % 2 ^ 64 = bs.getD (i - 8) 0 * 72057594037927936 + bs.getD (i - 7) 0 * 281474976710656 + bs.getD (i - 6) 0 * 1099511627776 + bs.getD (i - 5) 0 * 4294967296 + bs.getD (i - 4) 0 * 16777216 + bs.getD (i - 3) 0 * 65536 + bs.getD (i - 2) 0 * 256 + bs.getD (i - 1) 0 := by
  have h0 := h (i - 8); have h1 := h (i - 7); have h2 := h (i - 6); have h3 := h (i - 5); have h4 := h (i - 4); have h5 := h (i - 3); have h6 := h (i - 2); have h7 := h (i - 1)
  rw [pre_word i hi, show (2 : Nat) ^ 64 = 18446744073709551616 from rfl]
  omega

/-- the top word tells the length -/
theorem blen_top (N m : Nat) (h0 : N / 2 ^ (64 * (m + 1)) = 0) (ht : wd N m ≠ 0) : blen N = 64 * m + blen (wd N m) := by
  have e : wd N m = N / 2 ^ (64 * m) := by
    unfold wd
    apply Nat.mod_eq_of_lt
    have h1 : N < 2 ^ (64 * (m + 1)) := by
      rcases Nat.lt_or_ge N (2 ^ (64 * (m + 1))) with h | h
      · exact h
      · have := (Nat.div_pos h (Nat.two_pow_pos _)); omega
    rw [Nat.div_lt_iff_lt_mul (Nat.two_pow_pos _), ← Nat.pow_add, show 64 + 64 * m = 64 * (m + 1) by omega]
    exact h1
  have hb := blen_div N (64 * m)
  rw [e] at ht ⊢
  have := blen_pos ht
  omega

theorem wd_step (N m : Nat) (h0 : N / 2 ^ (64 * (m + 1)) = 0) (ht : wd N m = 0) : N / 2 ^ (64 * m) = 0 := by
  unfold wd at ht
  have e : N / 2 ^ (64 * (m + 1)) = N / 2 ^ (64 * m) / 2 ^ 64 := by rw [Nat.div_div_eq_div_mul, ← Nat.pow_add, show 64 * m + 64 = 64 * (m + 1) by omega]
  rw [e] at h0
  have := Nat.div_add_mod (N / 2 ^ (64 * m)) (2 ^ 64)
  rw [h0, ht] at this
  omega

/-! ### what the laws ask -/
theorem pre_append {bs : List Nat} (c : Nat) : ∀ i, i ≤ bs.length → pre (bs ++ [c]) i = pre bs i
  | 0, _ => rfl
  | i + 1, h => by
    unfold pre
    rw [pre_append c i (by omega)]
    simp [List.getD_eq_getElem?_getD, List.getElem?_append_left (show i < bs.length by omega)]

theorem num_shift (bs : List Nat) : num (bs ++ [0]) = num bs * 256 := by
  unfold num
  rw [List.length_append]
  have e : (bs ++ [0]).getD bs.length 0 = 0 := by simp [List.getD_eq_getElem?_getD]
  rw [List.length_singleton, pre_succ, pre_append 0 _ (Nat.le_refl _), e, Nat.add_zero]

theorem pre_cons (bs : List Nat) : ∀ i, pre (0 :: bs) (i + 1) = pre bs i
  | 0 => by simp [pre]
  | i + 1 => by
    rw [pre, pre_cons bs i, pre]
    simp [List.getD_eq_getElem?_getD]

theorem num_cons (bs : List Nat) : num (0 :: bs) = num bs := pre_cons bs bs.length

theorem num_upper {bs : List Nat} (h : Small bs) : blen (num bs) ≤ 8 * bs.length := by
  rw [blen_le]
  exact pre_lt h _

theorem pre_ge {bs : List Nat} (h : bs.getD 0 0 ≠ 0) : ∀ i, 2 ^ (8 * i) ≤ pre bs (i + 1)
  | 0 => by
    rw [pre_succ]
    simp only [pre, Nat.mul_zero, Nat.pow_zero]
    omega
  | i + 1 => by
    have h1 := pre_ge h i
    have e : 2 ^ (8 * (i + 1)) = 2 ^ (8 * i) * 256 := by rw [Nat.mul_add, Nat.pow_add]
    rw [e]
    rw [pre]
    omega

theorem num_lower {bs : List Nat} (hl : 0 < bs.length) (h : bs.getD 0 0 ≠ 0) : 8 * (bs.length - 1) < blen (num bs) := by
  have h1 : ¬ blen (num bs) ≤ 8 * (bs.length - 1) := by
    rw [blen_le]
    have := pre_ge h (bs.length - 1)
    rw [show bs.length - 1 + 1 = bs.length by omega] at this
    unfold num
    omega
  omega

/-- leading zeros, then a byte: the length by hand -/
theorem pre_zeros {bs : List Nat} : ∀ i, (∀ j, j < i → bs.getD j 0 = 0) → pre bs i = 0
  | 0, _ => rfl
  | i + 1, h => by
    unfold pre
    rw [pre_zeros i (fun j hj => h j (by omega)), h i (by omega)]

theorem num_by_hand {bs : List Nat} (hs : Small bs) (i : Nat) (hi : i < bs.length) (hz : ∀ j, j < i → bs.getD j 0 = 0) (hb : bs.getD i 0 ≠ 0) : blen (num bs) = 8 * (bs.length - i - 1) + blen (bs.getD i 0) := by
  have e1 : pre bs (i + 1) = bs.getD i 0 := by unfold pre; rw [pre_zeros i hz]; omega
  have e2 := pre_div hs (bs.length - i - 1) bs.length (by omega)
  rw [show bs.length - (bs.length - i - 1) = i + 1 by omega, e1] at e2
  have e3 := blen_div (num bs) (8 * (bs.length - i - 1))
  unfold num at e3 ⊢
  rw [e2] at e3
  have := blen_pos hb
  omega
end Go.Proofs.Qxb6615958a
