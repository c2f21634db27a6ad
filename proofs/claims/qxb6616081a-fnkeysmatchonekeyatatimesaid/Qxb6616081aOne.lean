import Derived.Test.Qxb6616081aKm
namespace Go.Proofs.Qxb6616081a
open Go.RowKit

theorem wrap_pow {i : Nat} (h : i < 64) : IntKind.u64.wrap ((2 : Int) ^ i) = ((2 ^ i : Nat) : Int) := by
  have hp : (2 : Nat) ^ i < 2 ^ 64 := Nat.pow_lt_pow_right (by omega) h
  have e : ((2 : Int) ^ i) = ((2 ^ i : Nat) : Int) := by simp
  rw [e, IntKind.wrap]
  simp only [IntKind.bits, IntKind.signed]
  generalize (2 : Nat) ^ i = P at hp
  simp
  omega

theorem pow_lt64 {i : Nat} (h : i < 64) : (2 : Nat) ^ i < 18446744073709551616 := Nat.pow_lt_pow_right (m := i) (n := 64) (by omega) h

set_option maxHeartbeats 2000000 in
theorem one_first (s n t : Bool) (K k : Nat) (hK : K < 18446744073709551616) (hk : k < 18446744073709551616) (w : World) :
    Calls Try.prog 5 #[.bool s, .bool false, .bool n, .int .u64 K, .int .u64 k, .bool t] w fun e w' => e = .returned (.bool true) ∧ Grown w w' := by
  go_enter Try.func5, Try.ntmps5
  go_wp2_with fail
  refine (keys_walk s false n t K k hK hk w).mono ?_
  rintro e w1 ⟨rfl, hg1⟩
  generalize hgot : km s false n K k t = got
  have HG := Hid.mk hgot
  have HW := Hid.mk hg1
  clear hgot hg1
  go_wp2_with fail
  go_loopg [16, 17, 18] 64 (fun y av lv iv wr => ∃ i : Nat, i + y = 64 ∧ av = .bool (anyUp (pAny n K k) i) ∧ lv = .bool (allUp (pAll n K k) i) ∧ iv = .int .i64 i ∧ Grown w wr)
  case atStart => exact ⟨0, rfl, rfl, rfl, rfl, HW.out⟩
  case round =>
    obtain ⟨i, hi, rfl, rfl, rfl, hgr⟩ := hrel
    have HR := Hid.mk hgr
    clear hgr HW
    cases gk with
    | zero =>
      have hi64 : i = 64 := by omega
      subst hi64
      have ha := any_law hK hk s n t
      have hl := all_law hK hk s n t
      rw [HG.out] at ha hl
      clear HG
      generalize anyUp (pAny n K k) 64 = av at ha
      generalize allUp (pAll n K k) 64 = lv at hl
      cases s <;> cases n <;> simp at ha hl
      · subst hl
        go_wp2
        go_ret
        exact ⟨by simp, HR.out⟩
      · subst ha
        go_wp2
        go_ret
        exact ⟨by simp, HR.out⟩
      · subst ha
        go_wp2
        go_ret
        exact ⟨by simp, HR.out⟩
      · subst hl
        go_wp2
        go_ret
        exact ⟨by simp, HR.out⟩
    | succ y =>
      have hi64 : i < 64 := by omega
      have hp := pow_lt64 hi64
      have hw2 := wrap_pow hi64
      have hb1 := u64_and_nat K (2 ^ i) hK hp
      have hb2 := u64_and_nat k (2 ^ i) hk hp
      have hone := km_one s n t hi64 hk
      rw [and_pow] at hb1 hb2
      have hpi : ((2 ^ i : Nat) : Int) ≠ 0 := by have := Nat.two_pow_pos i; omega
      have HAny : Hid (anyUp (pAny n K k) (i + 1) = (anyUp (pAny n K k) i || (K.testBit i && (k.testBit i != n)))) := Hid.mk rfl
      have HAll : Hid (allUp (pAll n K k) (i + 1) = (allUp (pAll n K k) i && (!K.testBit i || (k.testBit i != n)))) := Hid.mk rfl
      generalize anyUp (pAny n K k) i = av at HAny
      generalize allUp (pAll n K k) i = lv at HAll
      have HONE := Hid.mk (keys_walk s false n t (2 ^ i) k hp hk)
      rw [hone] at HONE
      clear hone
      generalize (2 : Nat) ^ i = P at hp hw2 hb1 hb2 hpi HONE
      cases hkb : K.testBit i with
      | false =>
        rw [hkb] at hb1 HAny HAll
        have hb1' : bits .and .u64 (K : Int) (P : Int) = 0 := by simpa using hb1
        clear hb1 hb2 HONE
        go_wp2
        go_roundg y
        case measure => omega
        case rel => exact ⟨i + 1, by omega, congrArg Value.bool (by rw [HAny.out]; simp), congrArg Value.bool (by rw [HAll.out]; simp), by first | rfl | go_num, HR.out⟩
      | true =>
        rw [hkb] at hb1 HAny HAll
        have hb1' : bits .and .u64 (K : Int) (P : Int) = (P : Int) := by simpa using hb1
        clear hb1
        cases hcb : k.testBit i with
        | false =>
          rw [hcb] at hb2 HAny HAll HONE
          have hb2' : bits .and .u64 (k : Int) (P : Int) = 0 := by simpa using hb2
          clear hb2
          cases n
          · go_wp2_with fail
            refine (HONE.out wr).mono ?_
            rintro e w2 ⟨rfl, hg⟩
            have HR2 := Hid.mk (grown_trans HR.out hg)
            clear HR hg HONE
            go_wp2
            go_roundg y
            case measure => omega
            case rel => exact ⟨i + 1, by omega, congrArg Value.bool (by rw [HAny.out]; simp), congrArg Value.bool (by rw [HAll.out]; simp), by first | rfl | go_num, HR2.out⟩
          · go_wp2_with fail
            refine (HONE.out wr).mono ?_
            rintro e w2 ⟨rfl, hg⟩
            have HR2 := Hid.mk (grown_trans HR.out hg)
            clear HR hg HONE
            go_wp2
            go_roundg y
            case measure => omega
            case rel => exact ⟨i + 1, by omega, congrArg Value.bool (by rw [HAny.out]; simp), congrArg Value.bool (by rw [HAll.out]; simp), by first | rfl | go_num, HR2.out⟩
        | true =>
          rw [hcb] at hb2 HAny HAll HONE
          have hb2' : bits .and .u64 (k : Int) (P : Int) = (P : Int) := by simpa using hb2
          clear hb2
          cases n
          · go_wp2_with fail
            refine (HONE.out wr).mono ?_
            rintro e w2 ⟨rfl, hg⟩
            have HR2 := Hid.mk (grown_trans HR.out hg)
            clear HR hg HONE
            go_wp2
            go_roundg y
            case measure => omega
            case rel => exact ⟨i + 1, by omega, congrArg Value.bool (by rw [HAny.out]; simp), congrArg Value.bool (by rw [HAll.out]; simp), by first | rfl | go_num, HR2.out⟩
          · go_wp2_with fail
            refine (HONE.out wr).mono ?_
            rintro e w2 ⟨rfl, hg⟩
            have HR2 := Hid.mk (grown_trans HR.out hg)
            clear HR hg HONE
            go_wp2
            go_roundg y
            case measure => omega
            case rel => exact ⟨i + 1, by omega, congrArg Value.bool (by rw [HAny.out]; simp), congrArg Value.bool (by rw [HAll.out]; simp), by first | rfl | go_num, HR2.out⟩
end Go.Proofs.Qxb6616081a
