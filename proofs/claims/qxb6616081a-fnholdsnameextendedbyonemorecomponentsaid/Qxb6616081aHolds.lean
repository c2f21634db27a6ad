import Derived.Test.Qxb6616081aRows
import Derived.WalkKit
import Derived.ProofKit
import Derived.WalkSpells
import Derived.WalkLawsBesides
import Derived.Lib.Strings
import Derived.Lib.Small
import Derived.Lib.Walk
import Derived.Laws.BitsAllLaws
import Derived.RegionTactic
import Derived.Deep.QuietTactic
import Derived.BigQuiet
import Derived.Deep.DeepCutAuto
import Derived.Deep.CutBlock
import Derived.RowKit3


import Derived.Laws.Strings3
namespace Go.Proofs.Qxb6616081a
open Go.RowKit

set_option maxHeartbeats 1000000 in
theorem hasPrefix_lite (s p : ByteArray) (w : World) :
    Calls Try.prog 13 #[.string s, .string p] w fun e w' => e = .returned (.bool (Lib.hasPrefix s.data.toList p.data.toList)) ∧ w' = w := by
  rw [← Lib.hasPrefix_of_take, ← Lib.size_eq, ← Lib.size_eq]
  go_enter Try.func13, Try.ntmps13
  go_wp2
  · rename_i h
    go_ret
    refine ⟨?_, rfl⟩
    show Ending.returned (Value.bool ((s.extract 0 p.size).toList == p.toList)) = _
    rw [Lib.extract_toList, Lib.toList_data]
    simp [h]
  · rename_i h
    go_ret
    refine ⟨?_, rfl⟩
    show Ending.returned (Value.bool false) = _
    simp [h]

theorem hasPrefix_any (s p : ByteArray) (w : World) :
    Calls Try.prog 12 #[.string s, .string p] w fun e w' => e = .returned (.bool (Lib.hasPrefix s.data.toList p.data.toList)) ∧ w' = w := by
  go_enter Try.func12, Try.ntmps12
  go_wp2_with fail
  refine (hasPrefix_lite s p w).mono ?_
  rintro e w1 ⟨rfl, rfl⟩
  go_wp2
  go_ret
  exact ⟨rfl, rfl⟩

/-- holds, over bytes. -/
def holdsL (a b : List UInt8) : Bool := a == [] || (Lib.hasPrefix b a && (b.length == a.length || b[a.length]? == some 46))

theorem byte_dot (x : UInt8) : (((x.toNat : Nat) : Int) == 46) = (x == 46) := by
  rw [Bool.eq_iff_iff, beq_iff_eq, beq_iff_eq]
  constructor
  · intro h
    apply UInt8.toNat_inj.1
    show x.toNat = 46
    omega
  · rintro rfl
    rfl

theorem byte_at {a b : ByteArray} (h : a.size < b.size) : b.data.toList[a.data.toList.length]? = some b[a.size] := by
  have h' : a.size < b.data.toList.length := by rw [← Lib.size_eq]; exact h
  rw [← Lib.size_eq, List.getElem?_eq_getElem h']
  rfl

theorem pre_le {a b : ByteArray} (h : Lib.hasPrefix b.data.toList a.data.toList = true) : a.size ≤ b.size := by
  rw [← Lib.hasPrefix_of_take] at h
  rw [Lib.size_eq, Lib.size_eq]
  simp only [Bool.and_eq_true, decide_eq_true_eq] at h
  exact h.1

set_option maxHeartbeats 1000000 in
theorem holds_any (a b : ByteArray) (w : World) :
    Calls Try.prog 10 #[.string a, .string b] w fun e w' => e = .returned (.bool (holdsL a.data.toList b.data.toList)) ∧ w' = w := by
  by_cases ha : a.toList = []
  · have ha' : a.data.toList = [] := (Lib.toList_data a).symm.trans ha
    go_enter Try.func10, Try.ntmps10
    go_wp2
    go_ret
    exact ⟨by simp [holdsL, ha'], rfl⟩
  · have ha' : ¬ a.data.toList = [] := fun h => ha ((Lib.toList_data a).trans h)
    go_enter Try.func10, Try.ntmps10
    go_wp2_with fail
    refine (hasPrefix_any b a w).mono ?_
    rintro e w1 ⟨rfl, rfl⟩
    cases hp : Lib.hasPrefix b.data.toList a.data.toList with
    | false =>
      go_wp2
      go_ret
      refine ⟨congrArg (fun x => Ending.returned (.bool x)) (a₂ := holdsL a.data.toList b.data.toList) ?_, rfl⟩
      rw [Lib.toList_data]
      simp [holdsL, hp]
    | true =>
      have hle := pre_le hp
      by_cases hs : b.size = a.size
      · have hs' : b.data.toList.length = a.data.toList.length := by rw [← Lib.size_eq, ← Lib.size_eq]; exact hs
        go_wp2
        go_ret
        refine ⟨congrArg (fun x => Ending.returned (.bool x)) (a₂ := holdsL a.data.toList b.data.toList) ?_, rfl⟩
        simp [holdsL, hp, hs']
      · have hlt : a.size < b.size := by omega
        go_wp2
        go_ret
        refine ⟨congrArg (fun x => Ending.returned (.bool x)) (a₂ := holdsL a.data.toList b.data.toList) ?_, rfl⟩
        have h1 : ((b.size : Int) == (a.size : Int)) = false := by
          rw [beq_eq_false_iff_ne]
          omega
        have h2 : (b.data.toList.length == a.data.toList.length) = false := by
          rw [beq_eq_false_iff_ne, ← Lib.size_eq, ← Lib.size_eq]
          exact hs
        rw [Lib.toList_data, h1, byte_dot]
        unfold holdsL
        rw [hp, h2, byte_at hlt]
        simp
end Go.Proofs.Qxb6616081a
