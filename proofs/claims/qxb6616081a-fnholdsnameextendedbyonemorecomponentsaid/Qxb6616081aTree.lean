import Derived.Test.Qxb6616081aHoldsLaw
import Derived.Test.Qxb6616081aKeys
namespace Go.Proofs.Qxb6616081a
open Go.RowKit

theorem zzHolds (a b : ByteArray) (w : World) :
    Calls Try.prog 7 #[.string a, .string b] w fun e w' => e = .returned (.bool (holdsL a.data.toList b.data.toList)) ∧ w' = w := by
  go_enter Try.func7, Try.ntmps7
  go_wp2_with fail
  refine (holds_any a b w).mono ?_
  rintro e w1 ⟨rfl, rfl⟩
  go_wp2
  go_ret
  exact ⟨rfl, rfl⟩

set_option maxHeartbeats 1000000 in
theorem zzBytes_tree (a b c : ByteArray) (_ha : a.size ≤ maxLen) (_hb : b.size ≤ maxLen) (_hc : c.size ≤ maxLen) (w : World) :
    Calls Try.prog 8 #[.string a, .string b, .string c] w fun e w' => (e = .returned (.bool true) ∧ a.size + b.size + c.size ≤ 1048576 ∨ e = .returned (.bool false)) ∧ w' = w := by
  by_cases h1 : a.size ≤ 1048576
  · by_cases h2 : b.size ≤ 1048576
    · by_cases h3 : a.size + b.size ≤ 1048576
      · by_cases h4 : c.size ≤ 1048576
        · by_cases h5 : a.size + b.size + c.size ≤ 1048576
          · go_enter Try.func8, Try.ntmps8
            go_wp2
            go_ret
            exact ⟨.inl ⟨rfl, h5⟩, rfl⟩
          · go_enter Try.func8, Try.ntmps8
            go_wp2
            go_ret
            exact ⟨.inr rfl, rfl⟩
        · go_enter Try.func8, Try.ntmps8
          go_wp2
          go_ret
          exact ⟨.inr rfl, rfl⟩
      · go_enter Try.func8, Try.ntmps8
        go_wp2
        go_ret
        exact ⟨.inr rfl, rfl⟩
    · go_enter Try.func8, Try.ntmps8
      go_wp2
      go_ret
      exact ⟨.inr rfl, rfl⟩
  · go_enter Try.func8, Try.ntmps8
    go_wp2
    go_ret
    exact ⟨.inr rfl, rfl⟩

theorem eq_lists (a b : ByteArray) : (a.toList == b.toList) = (a.data.toList == b.data.toList) := by rw [Lib.toList_data, Lib.toList_data]

/-- The tail of the law, behind the lengths' bound: over four answers. -/
theorem tree_plain (a b c : List UInt8) : (holdsL a b && holdsL b c && !holdsL a c) = false ∧ (holdsL a c && holdsL b c && !holdsL a b && !holdsL b a) = false := by
  constructor
  · cases h1 : holdsL a b with
    | false => rfl
    | true =>
      cases h2 : holdsL b c with
      | false => rfl
      | true => rw [holds_trans h1 h2]; rfl
  · cases h1 : holdsL a c with
    | false => rfl
    | true =>
      cases h2 : holdsL b c with
      | false => rfl
      | true =>
        rcases holds_tree h1 h2 with h | h
        · rw [h]; rfl
        · rw [h]; simp

set_option maxHeartbeats 2000000 in
theorem tree_law (a b c : ByteArray) (ha : a.size ≤ maxLen) (hb : b.size ≤ maxLen) (hc : c.size ≤ maxLen) (w : World) :
    Calls Try.prog 4 #[.string a, .string b, .string c] w fun e w' => e = .returned (.bool true) ∧ Grown w w' := by
  have k1 := Hid.mk (zzHolds a b)
  have k2 := Hid.mk (zzHolds b a)
  have k3 := Hid.mk (zzHolds b c)
  have k4 := Hid.mk (zzHolds a c)
  have he := (eq_lists a b).trans (holds_same a.data.toList b.data.toList).symm
  obtain ⟨l1, l2⟩ := tree_plain a.data.toList b.data.toList c.data.toList
  have L1 := Hid.mk l1
  have L2 := Hid.mk l2
  clear l1 l2
  generalize holdsL a.data.toList b.data.toList = x at k1 he L1 L2
  generalize holdsL b.data.toList a.data.toList = y at k2 he L2
  generalize holdsL b.data.toList c.data.toList = z at k3 L1 L2
  generalize holdsL a.data.toList c.data.toList = u at k4 L1 L2
  have HE := Hid.mk he
  clear he
  go_enter Try.func4, Try.ntmps4
  go_wp2_with fail
  refine (zzBytes_tree a b c ha hb hc w).mono ?_
  rintro e w1 ⟨h | h, rfl⟩
  · obtain ⟨rfl, hsum⟩ := h
    go_wp2_with fail
    refine (k1.out _).mono ?_
    rintro e w2 ⟨rfl, rfl⟩
    go_wp2_with fail
    refine (k2.out _).mono ?_
    rintro e w3 ⟨rfl, rfl⟩
    clear k1 k2
    cases x <;> cases y
    all_goals
      first
        | have he : (a.toList == b.toList) = true := HE.out
        | have he : (a.toList == b.toList) = false := HE.out
      clear HE
      go_wp2_with fail
      refine (k3.out _).mono ?_
      rintro e w4 ⟨rfl, rfl⟩
      go_wp2_with fail
      refine (k4.out _).mono ?_
      rintro e w5 ⟨rfl, rfl⟩
      clear k3 k4
      have l1 := L1.out
      have l2 := L2.out
      clear L1 L2
      cases z <;> cases u
      all_goals first
        | exact absurd l1 (by decide)
        | exact absurd l2 (by decide)
        | (clear l1 l2; go_wp2; go_ret; exact ⟨rfl, Grown.refl _⟩)
  · subst h
    go_wp2
    go_ret
    exact ⟨rfl, Grown.refl _⟩
end Go.Proofs.Qxb6616081a
