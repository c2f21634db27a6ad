import Derived.Test.Qxb6615790aFmtRows
import Derived.WalkKit
import Derived.WalkSpells
import Derived.WalkLawsBesides
import Derived.Deep.DeepCutAuto
import Derived.Deep.CutBlock
namespace Go.Proofs.Qxb6615790aFmt
open Go.RowKit

/- THE GUARDS OF THE LAW: zzValidUTF8 returns some bool and touches nothing. -/
/-- The call returned some bool. -/
def SomeB (e : Ending) : Prop := ∃ r : Bool, e = .returned (.bool r)

set_option maxRecDepth 4000 in
set_option maxHeartbeats 2000000 in
theorem validUTF8_any (s : ByteArray) (w : World) (hs : s.size ≤ maxLen) :
    Calls Tryf.prog 6 #[.string s] w fun e w' => SomeB e ∧ w' = w := by
  unfold maxLen at hs
  go_enter Tryf.func6, Tryf.ntmps6
  go_wp2
  go_loopg [3] s.size (fun g i wr => wr = w ∧ ∃ k : Nat, k ≤ s.size ∧ g = s.size - k ∧ i = .int .i64 k)
  case atStart => exact ⟨rfl, 0, Nat.zero_le _, rfl, rfl⟩
  case round =>
    obtain ⟨rfl, k, hk, rfl, rfl⟩ := hrel
    by_cases hlt : k < s.size
    · go_upto_block 2 with fail
      · go_roundg (s.size - (k + 1))
        case measure => omega
        case rel => exact ⟨rfl, k + 1, by omega, rfl, by first | rfl | go_num⟩
      · generalize (s[k].toNat : Int) = c
        go_cut [4, 5, 6, 7] (fun v4 v5 v6 v7 wx => wx = wr ∧ ∃ c' n lo hi : Int, v4 = .int .u8 c' ∧ v5 = .int .i64 n ∧ v6 = .int .u8 lo ∧ v7 = .int .u8 hi ∧ 1 ≤ n ∧ n ≤ 3)
        case first =>
          go_wp2
          all_goals first
            | (go_ret; exact ⟨⟨false, rfl⟩, rfl⟩)
            | (go_meet; exact ⟨rfl, _, _, _, _, rfl, rfl, rfl, rfl, by omega, by omega⟩)
        case rest =>
          obtain ⟨rfl, c', n, lo, hi, rfl, rfl, rfl, rfl, hn1, hn3⟩ := hcut
          by_cases hfit : (s.size : Int) - k - 1 < n
          · go_wp2
            go_ret
            exact ⟨⟨false, rfl⟩, rfl⟩
          · go_upto_block 3 with fail
            · go_ret
              exact ⟨⟨false, rfl⟩, rfl⟩
            · generalize (s[k + 1].toNat : Int) = d
              go_wp2_with fail
              go_loopg [9] 3 (fun g v9 wx => wx = wc ∧ ∃ j : Nat, 2 ≤ j ∧ j ≤ 4 ∧ (j : Int) ≤ n + 1 ∧ g = 5 - j ∧ v9 = .int .i64 j)
              case atStart => exact ⟨rfl, 2, by omega, by omega, by omega, rfl, rfl⟩
              case round =>
                obtain ⟨rfl, j, hj2, hj4, hjn, rfl, rfl⟩ := hrel
                by_cases hle : (j : Int) ≤ n
                · have hb : k + j < s.size := by omega
                  go_wp2
                  · go_ret
                    exact ⟨⟨false, rfl⟩, rfl⟩
                  · go_roundg (5 - (j + 1))
                    case measure => omega
                    case rel => exact ⟨rfl, j + 1, by omega, by omega, by omega, rfl, by first | rfl | go_num⟩
                  · go_ret
                    exact ⟨⟨false, rfl⟩, rfl⟩
                · go_wp2
                  go_roundg (s.size - (k + (n + 1).toNat))
                  case measure => omega
                  case rel => exact ⟨rfl, k + (n + 1).toNat, by omega, rfl, by first | rfl | go_num⟩
            · go_ret
              exact ⟨⟨false, rfl⟩, rfl⟩
    · go_wp2
      go_ret
      exact ⟨⟨true, rfl⟩, rfl⟩

end Go.Proofs.Qxb6615790aFmt
