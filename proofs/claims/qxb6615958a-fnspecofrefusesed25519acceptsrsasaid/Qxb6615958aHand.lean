import Derived.Test.Qxb6615958aSpec
namespace Go.Proofs.Qxb6615958a
open Go.RowKit

theorem blen_half (x : Nat) (h : x ≠ 0) : blen x = blen (x / 2) + 1 := by
  have h1 := blen_div x 1
  have h2 := blen_pos h
  rw [show (2 : Nat) ^ 1 = 2 from rfl] at h1
  omega

theorem u8_eq_zero (x : Nat) : ((x : Int) = 0) = (x = 0) := propext ⟨fun h => by omega, fun h => by omega⟩

/-- The zeros ahead. -/
def Zeros (bs : List Nat) (i : Nat) : Prop := ∀ j, j < i → bs.getD j 0 = 0

set_option maxHeartbeats 2000000 in
theorem bitLenBytes_any (a : Option Addr) (n c b off : Nat) (bs : List Nat) (w : World) (h : ByteRow w a n b off bs) (hn : n ≤ 2000000) :
    Calls Try.prog 7 #[.slice a n c] w fun e w' => e = .returned (.int .i64 (blen (num bs))) ∧ w' = w := by
  have HH := Hid.mk h
  clear h
  go_enter Try.func7, Try.ntmps7
  go_wp2_with fail
  go_loopg [3] n (fun y s wr => wr = w ∧ ∃ i : Nat, i + y = n ∧ s = .int .i64 i ∧ Zeros bs i)
  case atStart => exact ⟨rfl, 0, by omega, rfl, fun j hj => by omega⟩
  case round =>
    obtain ⟨rfl, i, hi, rfl, hz⟩ := hrel
    have HZ := Hid.mk hz
    clear hz
    cases gk with
    | zero =>
      have hin : i = n := by omega
      subst hin
      clear hi
      go_wp2
      go_ret
      have hl := HH.out.long
      refine ⟨?_, rfl⟩
      have : num bs = 0 := by unfold num; rw [hl]; exact pre_zeros i HZ.out
      rw [this]; rfl
    | succ k =>
      have hix := HH.out.at c i (by omega)
      have hcell := HH.out.cells i (by omega)
      have hsm := HH.out.small i
      by_cases hx : bs.getD i 0 = 0
      · have HX := Hid.mk hx
        rw [hx] at hcell
        clear hx hsm
        go_wp2
        go_roundg k
        case measure => omega
        case rel =>
          refine ⟨rfl, i + 1, by omega, by first | rfl | go_num, fun j hj => ?_⟩
          by_cases hji : j < i
          · exact HZ.out j hji
          · have : j = i := by omega
            subst this
            exact HX.out
      · have hnum := num_by_hand HH.out.small i (by have := HH.out.long; omega) HZ.out hx
        rw [HH.out.long] at hnum
        have HNUM := Hid.mk hnum
        clear hnum
        generalize bs.getD i 0 = x0 at hcell hx hsm HNUM
        have hx' : (x0 : Int) ≠ 0 := by omega
        go_wp2_with fail
        go_loopg [4, 5] x0 (fun y bb tt wx => wx = wr ∧ ∃ t : Nat, t ≤ 8 ∧ y < 256 ∧ bb = .int .u8 (y : Nat) ∧ tt = .int .i64 t ∧ t + blen y = blen x0)
        case atStart => exact ⟨rfl, 0, by omega, hsm, rfl, rfl, by omega⟩
        case round =>
          obtain ⟨rfl, t, ht, hg, rfl, rfl, hblen⟩ := hrel
          have hb8 : blen x0 ≤ 8 := (blen_le x0 8).2 (by omega)
          by_cases hg0 : gk = 0
          · subst hg0
            rw [blen_zero] at hblen
            have hlen : blen (num bs) = 8 * (n - i - 1) + t := by have := HNUM.out; omega
            have HL := Hid.mk hlen
            clear hlen hblen hix hcell
            go_wp2
            go_ret
            refine ⟨congrArg (fun x : Int => Ending.returned (.int .i64 x)) (a₂ := ((blen (num bs) : Nat) : Int)) ?_, rfl⟩
            have := HL.out
            omega
          · have hgi : (gk : Int) ≠ 0 := by omega
            have hh := blen_half gk hg0
            have HHB := Hid.mk hh
            have HBL := Hid.mk hblen
            have ht8 : t < 8 := by omega
            clear hh hblen hix hcell
            go_wp2
            go_roundg (gk / 2)
            case measure => omega
            case rel =>
              refine ⟨rfl, t + 1, by omega, by omega, ?_, by first | rfl | go_num, by have := HHB.out; have := HBL.out; omega⟩
              exact congrArg (Value.int .u8) (by omega)
end Go.Proofs.Qxb6615958a
