import Derived.Test.Qxb6616081aTree
import Derived.Laws.Concat
namespace Go.Proofs.Qxb6616081a
open Go.RowKit

set_option maxHeartbeats 1000000 in
theorem zzBytes_ext (a b c : ByteArray) (_ha : a.size ≤ maxLen) (_hb : b.size ≤ maxLen) (_hc : c.size ≤ maxLen) (w : World) :
    Calls Try.prog 6 #[.string a, .string b, .string c] w fun e w' => (e = .returned (.bool true) ∧ a.size + b.size + c.size ≤ 1048576 ∨ e = .returned (.bool false)) ∧ w' = w := by
  by_cases h1 : a.size ≤ 1048576
  · by_cases h2 : b.size ≤ 1048576
    · by_cases h3 : a.size + b.size ≤ 1048576
      · by_cases h4 : c.size ≤ 1048576
        · by_cases h5 : a.size + b.size + c.size ≤ 1048576
          · go_enter Try.func6, Try.ntmps6
            go_wp2
            go_ret
            exact ⟨.inl ⟨rfl, h5⟩, rfl⟩
          · go_enter Try.func6, Try.ntmps6
            go_wp2
            go_ret
            exact ⟨.inr rfl, rfl⟩
        · go_enter Try.func6, Try.ntmps6
          go_wp2
          go_ret
          exact ⟨.inr rfl, rfl⟩
      · go_enter Try.func6, Try.ntmps6
        go_wp2
        go_ret
        exact ⟨.inr rfl, rfl⟩
    · go_enter Try.func6, Try.ntmps6
      go_wp2
      go_ret
      exact ⟨.inr rfl, rfl⟩
  · go_enter Try.func6, Try.ntmps6
    go_wp2
    go_ret
    exact ⟨.inr rfl, rfl⟩

theorem ext_list (n r : ByteArray) : (n ++ ⟨#[46]⟩ ++ r).data.toList = n.data.toList ++ 46 :: r.data.toList := by
  simp [ByteArray.data_append]
theorem dot_list (n : ByteArray) : (n ++ ⟨#[46]⟩ : ByteArray).data.toList = n.data.toList ++ [46] := by
  simp [ByteArray.data_append]
theorem ext_size (n r : ByteArray) : (n ++ ⟨#[46]⟩ ++ r).size = n.size + 1 + r.size := by
  rw [Lib.size_eq, ext_list, Lib.size_eq, Lib.size_eq]
  simp
  omega
theorem dot_size (n : ByteArray) : (n ++ ⟨#[46]⟩ : ByteArray).size = n.size + 1 := by
  rw [Lib.size_eq, dot_list, Lib.size_eq]
  simp

theorem slice_from (s : ByteArray) (k : Nat) (h : k ≤ s.size) (w : World) : (Instr.slice 9 (.string s) (some (.int .i64 (k : Int))) none none).run Try.prog w = .ok (.string (s.extract k s.size)) w := by
  have h' : ¬ ((s.size : Int) < (k : Int)) := by omega
  go_simp

theorem tail_holds (s n r : ByteArray) (m : Nat) (hm : m = n.size + 1 + r.size) (w : World) :
    Calls Try.prog 7 #[.string (s.extract n.size s.size), .string ((n ++ ⟨#[46]⟩ ++ r).extract n.size m)] w fun e w' => e = .returned (.bool (holdsL (s.data.toList.drop n.data.toList.length) (46 :: r.data.toList))) ∧ w' = w := by
  have h1 : (s.extract n.size s.size).data.toList = s.data.toList.drop n.data.toList.length := by
    rw [Lib.extract_data, Lib.size_eq n, List.take_of_length_le]
    rw [List.length_drop, ← Lib.size_eq s]
    exact Nat.le_refl _
  have h2 : ((n ++ ⟨#[46]⟩ ++ r).extract n.size m).data.toList = 46 :: r.data.toList := by
    rw [Lib.extract_data, ext_list, Lib.size_eq n, List.drop_left, List.take_of_length_le]
    rw [hm, List.length_cons, ← Lib.size_eq r, Lib.size_eq n]
    omega
  have := zzHolds (s.extract n.size s.size) ((n ++ ⟨#[46]⟩ ++ r).extract n.size m) w
  rwa [h1, h2] at this

set_option maxHeartbeats 2000000 in
theorem ext_walk (s n r : ByteArray) (hs : s.size ≤ maxLen) (hn : n.size ≤ maxLen) (hr : r.size ≤ maxLen) (w : World) :
    Calls Try.prog 3 #[.string s, .string n, .string r] w fun e w' => e = .returned (.bool true) ∧ Grown w w' := by
  go_enter Try.func3, Try.ntmps3
  go_wp2_with fail
  refine (zzBytes_ext s n r hs hn hr w).mono ?_
  rintro e w1 ⟨h | h, rfl⟩
  · obtain ⟨rfl, hsum⟩ := h
    have hES := ext_size n r
    have hDS := dot_size n
    have k1 := Hid.mk (zzHolds n (n ++ ⟨#[46]⟩ ++ r))
    have k2 := Hid.mk (zzHolds (n ++ ⟨#[46]⟩ ++ r) n)
    have k5 := Hid.mk (zzHolds s (n ++ ⟨#[46]⟩ ++ r))
    rw [ext_list] at k1 k2 k5
    rw [ext_holds] at k1
    rw [ext_not] at k2
    rw [ext_law] at k5
    go_wp2_with fail
    refine (k1.out _).mono ?_
    rintro e w2 ⟨rfl, rfl⟩
    clear k1
    go_wp2_with fail
    refine (k2.out _).mono ?_
    rintro e w3 ⟨rfl, rfl⟩
    clear k2
    have k4 := Hid.mk (zzHolds s n)
    by_cases hlen : n.size < s.size
    · have hcut : (s.extract 0 (n.size + 1)).toList = s.data.toList.take (n.data.toList.length + 1) := by
        rw [Lib.extract_toList, ← Lib.size_eq]
        simp
      have hD : (n ++ ⟨#[46]⟩ : ByteArray).toList = n.data.toList ++ [46] := by rw [Lib.toList_data, dot_list]
      by_cases hq : s.data.toList.take (n.data.toList.length + 1) = n.data.toList ++ [46]
      · have hd : deeper s.data.toList n.data.toList r.data.toList = holdsL (s.data.toList.drop n.data.toList.length) (46 :: r.data.toList) := by
          unfold deeper
          rw [decide_eq_true (by rw [← Lib.size_eq, ← Lib.size_eq]; exact hlen), hq]
          simp
        have hq' : (s.extract 0 (n.size + 1)).toList = (n ++ ⟨#[46]⟩ : ByteArray).toList := by rw [hcut, hD, hq]
        have k3 := Hid.mk (tail_holds s n r)
        rw [hd] at k5
        clear hd hq hcut hD
        generalize holdsL s.data.toList n.data.toList = x at k4 k5
        generalize holdsL (s.data.toList.drop n.data.toList.length) (46 :: r.data.toList) = y at k3 k5
        go_wp2_with fail
        have hsl1 := slice_from s n.size (by omega)
        have hsl2 := slice_from (n ++ ⟨#[46]⟩ ++ r) n.size (by omega)
        go_quiet (first | (go_at_call 7; exact Calls.quiet_of_same (k3.out _ rfl _)) | (go_at_call 7; exact Calls.quiet_of_same (k3.out _ hES _)))
        clear k3
        go_wp2_with fail
        refine (k4.out _).mono ?_
        rintro e w4 ⟨rfl, rfl⟩
        clear k4
        cases x
        all_goals
          go_wp2_with fail
          refine (k5.out _).mono ?_
          rintro e w5 ⟨rfl, rfl⟩
          clear k5
          cases y
          all_goals
            go_wp2
            go_ret
            exact ⟨rfl, Grown.refl _⟩
      · have hd : deeper s.data.toList n.data.toList r.data.toList = false := by
          unfold deeper
          rw [beq_eq_false_iff_ne.2 hq]
          simp
        have hq' : ((s.extract 0 (n.size + 1)).toList == (n ++ ⟨#[46]⟩ : ByteArray).toList) = false := by rw [hcut, hD]; exact beq_eq_false_iff_ne.2 hq
        rw [hd] at k5
        clear hd hq hcut hD
        generalize holdsL s.data.toList n.data.toList = x at k4 k5
        go_wp2_with fail
        refine (k4.out _).mono ?_
        rintro e w4 ⟨rfl, rfl⟩
        cases x
        all_goals
          go_wp2_with fail
          refine (k5.out _).mono ?_
          rintro e w5 ⟨rfl, rfl⟩
          go_wp2
          go_ret
          exact ⟨rfl, Grown.refl _⟩
    · have hd : deeper s.data.toList n.data.toList r.data.toList = false := by
        unfold deeper
        rw [decide_eq_false (by rw [← Lib.size_eq, ← Lib.size_eq]; exact hlen)]
        simp
      rw [hd] at k5
      clear hd
      generalize holdsL s.data.toList n.data.toList = x at k4 k5
      go_wp2_with fail
      refine (k4.out _).mono ?_
      rintro e w4 ⟨rfl, rfl⟩
      cases x
      all_goals
        go_wp2_with fail
        refine (k5.out _).mono ?_
        rintro e w5 ⟨rfl, rfl⟩
        go_wp2
        go_ret
        exact ⟨rfl, Grown.refl _⟩
  · subst h
    go_wp2
    go_ret
    exact ⟨rfl, Grown.refl _⟩
end Go.Proofs.Qxb6616081a
