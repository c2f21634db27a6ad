import Derived.Test.Qxb6616081aOne
namespace Go.Proofs.Qxb6616081a
open Go.RowKit

set_option maxHeartbeats 2000000 in
theorem one_second (s t : Bool) (K k : Nat) (hK : K < 18446744073709551616) (hk : k < 18446744073709551616) (w : World) :
    Calls Try.prog 5 #[.bool s, .bool true, .bool false, .int .u64 K, .int .u64 k, .bool t] w fun e w' => e = .returned (.bool true) ∧ Grown w w' := by
  go_enter Try.func5, Try.ntmps5
  go_wp2_with fail
  refine (keys_walk s true false t K k hK hk w).mono ?_
  rintro e w1 ⟨rfl, hg1⟩
  generalize hgot : km s true false K k t = got
  have HG := Hid.mk hgot
  have HW := Hid.mk hg1
  clear hgot hg1
  go_wp2_with fail
  go_loopg [22, 23] 64 (fun y ev iv wr => ∃ i : Nat, i + y = 64 ∧ ev = .bool (allUp (pEach t K k) i) ∧ iv = .int .i64 i ∧ Grown w wr)
  case atStart => exact ⟨0, rfl, rfl, rfl, HW.out⟩
  case round =>
    obtain ⟨i, hi, rfl, rfl, hgr⟩ := hrel
    have HR := Hid.mk hgr
    clear hgr HW
    cases gk with
    | zero =>
      have hi64 : i = 64 := by omega
      subst hi64
      have he := each_law hK hk t
      cases s
      · have hs := sym_law K k t
        have hk2 := keys_walk false true false t k K hk hK
        rw [hs, HG.out] at hk2
        have HK2 := Hid.mk hk2
        clear hk2 hs
        by_cases h0 : k = 0
        · subst h0
          have hn := none_law K t
          rw [HG.out] at hn
          clear he HG
          generalize allUp (pEach t K 0) 64 = ev
          by_cases hK0 : K = 0
          · subst hK0
            have hn' : got = !t := by simpa using hn
            clear hn
            subst hn'
            go_wp2_with fail
            refine (HK2.out wr).mono ?_
            rintro e w2 ⟨rfl, hg⟩
            have HR2 := Hid.mk (grown_trans HR.out hg)
            clear hg HR HK2
            go_wp2
            go_ret
            exact ⟨by simp, HR2.out⟩
          · have hn' : got = false := by rw [hn]; simp [hK0]
            clear hn
            subst hn'
            have hKi : (K : Int) ≠ 0 := by omega
            go_wp2_with fail
            refine (HK2.out wr).mono ?_
            rintro e w2 ⟨rfl, hg⟩
            have HR2 := Hid.mk (grown_trans HR.out hg)
            clear hg HR HK2
            go_wp2
            go_ret
            exact ⟨by simp, HR2.out⟩
        · have hb := both_law hK hk t h0
          rw [HG.out] at hb
          clear he HG
          have hki : (k : Int) ≠ 0 := by omega
          have HK3 := Hid.mk (keys_walk true true false t K k hK hk)
          have HK4 := Hid.mk (keys_walk false false false t K k hK hk)
          generalize km true true false K k t = x at hb HK3
          generalize km false false false K k t = y at hb HK4
          subst hb
          generalize allUp (pEach t K k) 64 = ev
          go_wp2_with fail
          refine (HK2.out wr).mono ?_
          rintro e w2 ⟨rfl, hg⟩
          have HR2 := Hid.mk (grown_trans HR.out hg)
          clear hg HR HK2
          go_wp2_with fail
          refine (HK3.out _).mono ?_
          rintro e w3 ⟨rfl, hg⟩
          have HR3 := Hid.mk (grown_trans HR2.out hg)
          clear hg HR2 HK3
          cases x
          · go_wp2
            go_ret
            exact ⟨by simp, HR3.out⟩
          · go_wp2_with fail
            refine (HK4.out _).mono ?_
            rintro e w4 ⟨rfl, hg⟩
            have HR4 := Hid.mk (grown_trans HR3.out hg)
            clear hg HR3 HK4
            go_wp2
            go_ret
            exact ⟨by simp, HR4.out⟩
      · rw [HG.out] at he
        clear HG
        generalize allUp (pEach t K k) 64 = ev at he
        by_cases h0 : k = 0
        · subst h0
          have he' : got = false := by simpa using he
          clear he
          subst he'
          go_wp2
          go_ret
          exact ⟨by simp, HR.out⟩
        · have he' : got = ev := by rw [he, bne_iff_ne.2 h0, Bool.true_and]
          clear he
          subst he'
          have hki : (k : Int) ≠ 0 := by omega
          go_wp2
          go_ret
          refine ⟨congrArg ret (a₂ := true) ?_, HR.out⟩
          rw [bne_iff_ne.2 hki, Bool.true_and, beq_self_eq_true]
    | succ y =>
      have hi64 : i < 64 := by omega
      have hp := pow_lt64 hi64
      have hw2 := wrap_pow hi64
      have hb1 := u64_and_nat K (2 ^ i) hK hp
      have hb2 := u64_and_nat k (2 ^ i) hk hp
      have hone := km_exact t hi64 hK
      rw [and_pow] at hb1 hb2
      have hpi : ((2 ^ i : Nat) : Int) ≠ 0 := by have := Nat.two_pow_pos i; omega
      have HAll : Hid (allUp (pEach t K k) (i + 1) = (allUp (pEach t K k) i && (!k.testBit i || (K.testBit i && !t)))) := Hid.mk rfl
      generalize allUp (pEach t K k) i = lv at HAll
      have HONE := Hid.mk (keys_walk true true false t K (2 ^ i) hK hp)
      rw [hone] at HONE
      clear hone HG
      generalize (2 : Nat) ^ i = P at hp hw2 hb1 hb2 hpi HONE
      cases hcb : k.testBit i with
      | false =>
        rw [hcb] at hb2 HAll
        have hb2' : bits .and .u64 (k : Int) (P : Int) = 0 := by simpa using hb2
        clear hb1 hb2 HONE
        go_wp2
        go_roundg y
        case measure => omega
        case rel => exact ⟨i + 1, by omega, congrArg Value.bool (by rw [HAll.out]; simp), by first | rfl | go_num, HR.out⟩
      | true =>
        rw [hcb] at hb2 HAll
        have hb2' : bits .and .u64 (k : Int) (P : Int) = (P : Int) := by simpa using hb2
        clear hb2
        cases hkb : K.testBit i with
        | false =>
          rw [hkb] at hb1 HAll HONE
          have hb1' : bits .and .u64 (K : Int) (P : Int) = 0 := by simpa using hb1
          clear hb1
          go_wp2_with fail
          refine (HONE.out wr).mono ?_
          rintro e w2 ⟨rfl, hg⟩
          have HR2 := Hid.mk (grown_trans HR.out hg)
          clear HR hg HONE
          go_wp2
          go_roundg y
          case measure => omega
          case rel => exact ⟨i + 1, by omega, congrArg Value.bool (by rw [HAll.out]; simp), by first | rfl | go_num, HR2.out⟩
        | true =>
          rw [hkb] at hb1 HAll HONE
          have hb1' : bits .and .u64 (K : Int) (P : Int) = (P : Int) := by simpa using hb1
          clear hb1
          cases t
          · go_wp2_with fail
            refine (HONE.out wr).mono ?_
            rintro e w2 ⟨rfl, hg⟩
            have HR2 := Hid.mk (grown_trans HR.out hg)
            clear HR hg HONE
            go_wp2
            go_roundg y
            case measure => omega
            case rel => exact ⟨i + 1, by omega, congrArg Value.bool (by rw [HAll.out]; simp), by first | rfl | go_num, HR2.out⟩
          · go_wp2_with fail
            refine (HONE.out wr).mono ?_
            rintro e w2 ⟨rfl, hg⟩
            have HR2 := Hid.mk (grown_trans HR.out hg)
            clear HR hg HONE
            go_wp2
            go_roundg y
            case measure => omega
            case rel => exact ⟨i + 1, by omega, congrArg Value.bool (by rw [HAll.out]; simp), by first | rfl | go_num, HR2.out⟩

set_option maxRecDepth 4000 in
theorem one_third (s t : Bool) (K k : Nat) (w : World) :
    Calls Try.prog 5 #[.bool s, .bool true, .bool true, .int .u64 K, .int .u64 k, .bool t] w fun e w' => e = .returned (.bool true) ∧ Grown w w' := by
  go_enter Try.func5, Try.ntmps5
  go_wp2
  go_ret
  refine ⟨?_, ?_⟩
  · rfl
  · exact Grown.refl _

theorem one_law (s e n t : Bool) (K k : Nat) (hK : K < 18446744073709551616) (hk : k < 18446744073709551616) (w : World) :
    Calls Try.prog 5 #[.bool s, .bool e, .bool n, .int .u64 K, .int .u64 k, .bool t] w fun e w' => e = .returned (.bool true) ∧ Grown w w' := by
  cases e
  · exact one_first s n t K k hK hk w
  · cases n
    · exact one_second s t K k hK hk w
    · exact one_third s t K k w
end Go.Proofs.Qxb6616081a
