import Derived.Test.Qxb6616081aHolds
namespace Go.Proofs.Qxb6616081a
open Go.RowKit

/-- What may stand behind a set's name in a name that it holds. -/
def Hd (r : List UInt8) : Prop := r = [] ∨ ∃ r', r = 46 :: r'

theorem holds_iff (a b : List UInt8) : holdsL a b = true ↔ a = [] ∨ ∃ r, b = a ++ r ∧ Hd r := by
  unfold holdsL Lib.hasPrefix
  simp only [Bool.or_eq_true, Bool.and_eq_true, beq_iff_eq, List.isPrefixOf_iff_prefix]
  constructor
  · rintro (h | ⟨⟨r, rfl⟩, h⟩)
    · exact .inl h
    · refine .inr ⟨r, rfl, ?_⟩
      cases r with
      | nil => exact .inl rfl
      | cons x r =>
        rcases h with h | h
        · simp at h
        · simp at h
          exact .inr ⟨r, by rw [h]⟩
  · rintro (h | ⟨r, rfl, h | ⟨r', rfl⟩⟩)
    · exact .inl h
    · subst h
      exact .inr ⟨⟨[], rfl⟩, .inl (by simp)⟩
    · exact .inr ⟨⟨_, rfl⟩, .inr (by simp)⟩

theorem hd_append {u s : List UInt8} (hu : Hd u) (hs : Hd s) : Hd (u ++ s) := by
  rcases hu with rfl | ⟨u', rfl⟩
  · exact hs
  · exact .inr ⟨u' ++ s, rfl⟩

theorem hd_left {u s : List UInt8} (h : Hd (u ++ s)) : Hd u := by
  cases u with
  | nil => exact .inl rfl
  | cons x u =>
    rcases h with h | ⟨r', h⟩
    · simp at h
    · simp at h
      exact .inr ⟨u, by rw [h.1]⟩

theorem holds_refl (a : List UInt8) : holdsL a a = true := (holds_iff a a).2 (.inr ⟨[], by simp, .inl rfl⟩)

theorem holds_nil {a : List UInt8} (h : holdsL a [] = true) : a = [] := by
  rcases (holds_iff _ _).1 h with h | ⟨r, h, _⟩
  · exact h
  · exact (List.append_eq_nil_iff.1 h.symm).1

theorem holds_same (a b : List UInt8) : (holdsL a b && holdsL b a) = (a == b) := by
  rw [Bool.eq_iff_iff, Bool.and_eq_true, beq_iff_eq]
  constructor
  · rintro ⟨h1, h2⟩
    rcases (holds_iff _ _).1 h1 with rfl | ⟨r, rfl, _⟩
    · exact (holds_nil h2).symm
    · rcases (holds_iff _ _).1 h2 with h | ⟨s, h, _⟩
      · rw [h]; exact (List.append_eq_nil_iff.1 h).1
      · have hl := congrArg List.length h
        simp only [List.length_append] at hl
        have hr : r = [] := List.eq_nil_of_length_eq_zero (by omega)
        rw [hr, List.append_nil]
  · rintro rfl
    exact ⟨holds_refl a, holds_refl a⟩

theorem holds_trans {a b c : List UInt8} (h1 : holdsL a b = true) (h2 : holdsL b c = true) : holdsL a c = true := by
  rw [holds_iff] at h1 h2 ⊢
  rcases h1 with h | ⟨r, rfl, hr⟩
  · exact .inl h
  · rcases h2 with h | ⟨s, rfl, hs⟩
    · exact .inl (List.append_eq_nil_iff.1 h).1
    · exact .inr ⟨r ++ s, by rw [List.append_assoc], hd_append hr hs⟩

theorem holds_tree {a b c : List UInt8} (h1 : holdsL a c = true) (h2 : holdsL b c = true) : holdsL a b = true ∨ holdsL b a = true := by
  rw [holds_iff] at h1 h2
  rw [holds_iff, holds_iff]
  rcases h1 with h | ⟨r, rfl, hr⟩
  · exact .inl (.inl h)
  · rcases h2 with h | ⟨s, hs, hd⟩
    · exact .inr (.inl h)
    · rcases List.append_eq_append_iff.1 hs with ⟨u, rfl, rfl⟩ | ⟨u, rfl, rfl⟩
      · exact .inl (.inr ⟨u, rfl, hd_left hr⟩)
      · exact .inr (.inr ⟨u, rfl, hd_left hd⟩)

theorem ext_holds (n r : List UInt8) : holdsL n (n ++ 46 :: r) = true := (holds_iff _ _).2 (.inr ⟨_, rfl, .inr ⟨r, rfl⟩⟩)

theorem ext_not (n r : List UInt8) : holdsL (n ++ 46 :: r) n = false := by
  rw [← Bool.not_eq_true, holds_iff]
  rintro (h | ⟨s, h, _⟩)
  · simp at h
  · have := congrArg List.length h
    simp only [List.length_append, List.length_cons] at this
    omega

/-- 'deeper', over bytes -/
def deeper (s n r : List UInt8) : Bool := decide (n.length < s.length) && (s.take (n.length + 1) == n ++ [46]) && holdsL (s.drop n.length) (46 :: r)

theorem ext_law (s n r : List UInt8) : holdsL s (n ++ 46 :: r) = (holdsL s n || deeper s n r) := by
  rw [Bool.eq_iff_iff, Bool.or_eq_true]
  constructor
  · intro h
    rcases (holds_iff _ _).1 h with h | ⟨t, ht, hd⟩
    · exact .inl ((holds_iff _ _).2 (.inl h))
    · rcases List.append_eq_append_iff.1 ht with ⟨u, rfl, hu⟩ | ⟨u, rfl, rfl⟩
      · cases u with
        | nil => exact .inl (by rw [List.append_nil]; exact holds_refl n)
        | cons x u =>
          obtain ⟨rfl, hr⟩ : x = 46 ∧ r = u ++ t := by simpa [eq_comm] using hu
          refine .inr ?_
          unfold deeper
          simp only [Bool.and_eq_true, decide_eq_true_eq, beq_iff_eq]
          refine ⟨⟨by simp, ?_⟩, ?_⟩
          · rw [List.take_append, List.take_of_length_le (Nat.le_succ _)]
            simp
          · rw [List.drop_left]
            exact (holds_iff _ _).2 (.inr ⟨t, by rw [hr]; rfl, hd⟩)
      · exact .inl ((holds_iff _ _).2 (.inr ⟨u, rfl, hd_left hd⟩))
  · rintro (h | h)
    · exact holds_trans h (ext_holds n r)
    · unfold deeper at h
      simp only [Bool.and_eq_true, decide_eq_true_eq, beq_iff_eq] at h
      obtain ⟨⟨h1, h2⟩, h3⟩ := h
      have h4 : s = n ++ 46 :: s.drop (n.length + 1) := by
        have := (List.take_append_drop (n.length + 1) s).symm
        rw [h2] at this
        simpa using this
      generalize s.drop (n.length + 1) = v at h4
      subst h4
      rw [List.drop_left] at h3
      rcases (holds_iff _ _).1 h3 with h | ⟨t, ht, hd⟩
      · cases h
      · exact (holds_iff _ _).2 (.inr ⟨t, by rw [ht, List.append_assoc], hd⟩)
end Go.Proofs.Qxb6616081a
