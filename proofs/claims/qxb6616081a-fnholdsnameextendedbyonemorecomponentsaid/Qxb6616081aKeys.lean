import Derived.Test.Qxb6616081aRows
import Derived.WalkKit
import Derived.ProofKit
import Derived.WalkSpells
import Derived.WalkLawsBesides
import Derived.Lib.Strings
import Derived.Lib.Small
import Derived.Lib.Walk
import Derived.Laws.BitsAllLaws
import Derived.RegionTactic
import Derived.Deep.QuietTactic
import Derived.BigQuiet
import Derived.Deep.DeepCutAuto
import Derived.Deep.CutBlock
import Derived.RowKit3
namespace Go.Proofs.Qxb6616081a
open Go.RowKit

/-- A fact laid aside. -/
def Hid (p : Prop) : Prop := p
theorem Hid.mk {p : Prop} (h : p) : Hid p := h
theorem Hid.out {p : Prop} (h : Hid p) : p := h

theorem grown_trans {a b c : World} (h : Grown a b) (k : Grown b c) : Grown a c :=
  ⟨World.keptBut_trans h.1 (World.keptBut_mono (fun _ f => f.elim) k.1), fun x => (k.2.1 x).trans (h.2.1 x), Nat.le_trans h.2.2 k.2.2⟩

/-- Are the bits of a among those of b? -/
def sub (a b : Nat) : Bool := a &&& (18446744073709551615 - b) == 0
/-- Have a and b a bit in common? -/
def meets (a b : Nat) : Bool := a &&& b != 0

/-- keysMatch. -/
def km (s e n : Bool) (K k : Nat) (t : Bool) : Bool :=
  (match e, s with
  | true, true => k != 0 && sub k K && !t
  | true, false => k == K && !t
  | false, true => meets k K
  | false, false => sub K k) != n

theorem beq_cast (x y : Nat) : ((x : Int) == (y : Int)) = (x == y) := by
  rw [Bool.eq_iff_iff, beq_iff_eq, beq_iff_eq]
  omega
theorem beq_zero (x : Nat) : ((x : Int) == 0) = (x == 0) := beq_cast x 0

def ret (b : Bool) : Ending := .returned (.bool b)

set_option maxHeartbeats 1000000 in
theorem keys_walk (s e n t : Bool) (K k : Nat) (hK : K < 18446744073709551616) (hk : k < 18446744073709551616) (w : World) :
    Calls Try.prog 9 #[.bool s, .bool e, .bool n, .int .u64 K, .int .u64 k, .bool t] w fun r w' => r = .returned (.bool (km s e n K k t)) ∧ Grown w w' := by
  have h1 := u64_andNot_nat k K hk hK
  have h2 := u64_andNot_nat K k hK hk
  have h3 := u64_and_nat k K hk hK
  cases e <;> cases s
  · clear h1 h3
    go_enter Try.func9, Try.ntmps9
    go_wp2_with fail
    go_enter Try.func11, Try.ntmps11
    go_wp2_with fail
    go_region
    go_wp2
    go_ret
    refine ⟨congrArg ret (a₂ := km false false n K k t) ?_, ((((Grown.refl _).alloc _ _).alloc _ _).alloc _ _).drew⟩
    rw [beq_zero]
    rfl
  · clear h1 h2
    go_enter Try.func9, Try.ntmps9
    go_wp2_with fail
    go_enter Try.func11, Try.ntmps11
    go_wp2_with fail
    go_region
    go_wp2
    go_ret
    refine ⟨congrArg ret (a₂ := km true false n K k t) ?_, ((((Grown.refl _).alloc _ _).alloc _ _).alloc _ _).drew⟩
    have h9 : (((k &&& K : Nat) : Int) != 0) = meets k K := by unfold meets bne; rw [beq_zero]
    rw [h9]
    rfl
  · clear h1 h2 h3
    have h4 : ((k : Int) == (K : Int)) = (k == K) := beq_cast k K
    by_cases hkK : k = K
    · subst hkK
      clear h4
      go_enter Try.func9, Try.ntmps9
      go_wp2_with fail
      go_enter Try.func11, Try.ntmps11
      go_wp2_with fail
      go_region
      go_wp2
      go_ret
      refine ⟨congrArg ret (a₂ := km false true n k k t) ?_, ((((Grown.refl _).alloc _ _).alloc _ _).alloc _ _).drew⟩
      cases n <;> cases t <;> simp [km]
    · have h5 : (k : Int) ≠ (K : Int) := by omega
      clear h4
      go_enter Try.func9, Try.ntmps9
      go_wp2_with fail
      go_enter Try.func11, Try.ntmps11
      go_wp2_with fail
      go_region
      go_wp2
      go_ret
      refine ⟨congrArg ret (a₂ := km false true n K k t) ?_, ((((Grown.refl _).alloc _ _).alloc _ _).alloc _ _).drew⟩
      cases n <;> simp [km, hkK]
  · clear h2 h3
    by_cases hk0 : k = 0
    · subst hk0
      clear h1
      go_enter Try.func9, Try.ntmps9
      go_wp2_with fail
      go_enter Try.func11, Try.ntmps11
      go_wp2_with fail
      go_region
      go_wp2
      go_ret
      refine ⟨congrArg ret (a₂ := km true true n K 0 t) ?_, ((((Grown.refl _).alloc _ _).alloc _ _).alloc _ _).drew⟩
      cases n <;> simp [km]
    · have h5 : (k : Int) ≠ 0 := by omega
      by_cases h6 : (k &&& 18446744073709551615 - K) = 0
      · rw [h6] at h1
        go_enter Try.func9, Try.ntmps9
        go_wp2_with fail
        go_enter Try.func11, Try.ntmps11
        go_wp2_with fail
        go_region
        go_wp2
        go_ret
        refine ⟨congrArg ret (a₂ := km true true n K k t) ?_, ((((Grown.refl _).alloc _ _).alloc _ _).alloc _ _).drew⟩
        have h8 : ((k : Int) != 0) = (k != 0) := by unfold bne; rw [beq_zero]
        rw [h8]
        cases n <;> cases t <;> simp [km, sub, h6]
      · generalize hx : (k &&& 18446744073709551615 - K) = x at h1 h6
        have h7 : (x : Int) ≠ 0 := by omega
        go_enter Try.func9, Try.ntmps9
        go_wp2_with fail
        go_enter Try.func11, Try.ntmps11
        go_wp2_with fail
        go_region
        go_wp2
        go_ret
        refine ⟨congrArg ret (a₂ := km true true n K k t) ?_, ((((Grown.refl _).alloc _ _).alloc _ _).alloc _ _).drew⟩
        cases n <;> simp [km, sub, hx, h6]
end Go.Proofs.Qxb6616081a
