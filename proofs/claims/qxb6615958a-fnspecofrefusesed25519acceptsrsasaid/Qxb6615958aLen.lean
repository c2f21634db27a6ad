import Derived.Test.Qxb6615958aRows
import Derived.Test.Qxb6615958aBits
import Derived.Test.Qxb6615958aLen64
import Derived.WalkKit
import Derived.WalkSpells
import Derived.WalkLawsBesides
import Derived.Lib.Strings
import Derived.Lib.Slices
import Derived.Lib.Small
import Derived.Lib.Walk
import Derived.Lib.BitFns
import Derived.Lib.EndianBits
import Derived.Laws.BitsAllLaws
import Derived.RegionTactic
import Derived.Deep.QuietTactic
import Derived.BigQuiet
import Derived.Deep.DeepCutAuto
import Derived.Deep.CutBlock
namespace Go.Proofs.Qxb6615958a
open Go.RowKit

theorem Hid.mk {p : Prop} (h : p) : Hid p := h
theorem ret_int {k : IntKind} {a b : Int} (h : a = b) : Ending.returned (.int k a) = .returned (.int k b) := by rw [h]

theorem lt_of_cell {w : World} {b o : Nat} {v : Value} (h : w.cell? ⟨b, o, none⟩ = some v) : b < w.heap.size := by
  rcases Nat.lt_or_ge b w.heap.size with h' | h'
  · exact h'
  · simp [World.cell?, Array.getElem?_eq_none h'] at h

set_option maxHeartbeats 400000 in
theorem len_any (x : Nat) (w : World) (h : x < 18446744073709551616) :
    Calls Try.prog 24 #[.int .u64 (x : Int)] w fun e w' => e = .returned (.int .i64 (blen x)) ∧ w' = w := by
  go_enter Try.func24, Try.ntmps24
  go_wp2_with fail
  refine (bits_Len64 (x : Int) w (by omega) (by omega)).mono ?_
  rintro e w1 ⟨rfl, rfl⟩
  rw [Int.toNat_natCast, bitLen_eq x h]
  go_wp2
  go_ret
  exact ⟨rfl, rfl⟩

/-- A number of big's: m words, the least first, the last not nought; 'N' is what they spell. -/
structure NatAt (w : World) (a : Option Addr) (m b off N : Nat) : Prop where
  here : 0 < m → a = some ⟨b, off, none⟩
  cells : ∀ k, k < m → w.cell? ⟨b, off + k, none⟩ = some (.int .u64 (wd N k : Nat))
  short : m ≤ 1000000
  all : N / 2 ^ (64 * m) = 0
  top : 0 < m → wd N (m - 1) ≠ 0

theorem NatAt.at {w : World} {a : Option Addr} {m b off N : Nat} (h : NatAt w a m b off N) (c k : Nat) (hk : k < m) (w' : World) :
    (Instr.indexAt 36 (.slice a m c) (.int .i64 k)).run Try.prog w' = .ok (.pointer (some ⟨b, off + k, none⟩)) w' := by
  rw [h.here (by omega)]
  go_simp

theorem NatAt.below {w w' : World} {a : Option Addr} {m b off N : Nat} (h : NatAt w a m b off N) (hb : Below w.heap.size w w') : NatAt w' a m b off N :=
  ⟨h.here, fun k hk => (hb.cell (p := ⟨b, off + k, none⟩) (lt_of_cell (h.cells k hk))).trans (h.cells k hk), h.short, h.all, h.top⟩

theorem or_lt (x s : Nat) (h : x < 18446744073709551616) : x ||| x / 2 ^ s < 18446744073709551616 := by
  have h' : x < 2 ^ 64 := by simpa using h
  have := Nat.or_lt_two_pow h' (Nat.lt_of_le_of_lt (Nat.div_le_self x (2 ^ s)) h')
  simpa using this

theorem or_eq (x s d : Nat) (hd : 2 ^ s = d) (h : x < 18446744073709551616) : bits .or .u64 (x : Int) ((x : Int) / (d : Int)) = ((x ||| x / 2 ^ s : Nat) : Int) := by
  subst hd
  rw [← Int.natCast_ediv]
  exact u64_or_nat _ _ h (Nat.lt_of_le_of_lt (Nat.div_le_self _ _) h)

set_option maxHeartbeats 1000000 in
theorem natBitLen_some (a : Option Addr) (m c b off N : Nat) (w : World) (h : NatAt w a (m + 1) b off N) :
    Calls Try.prog 20 #[.slice a (m + 1) c] w fun e w' => e = .returned (.int .i64 (blen N)) ∧ w' = w := by
  have hsh := h.short
  have hix := h.at c m (by omega)
  have hcell := h.cells m (by omega)
  have hb := blen_top N m h.all (by simpa using h.top (by omega))
  have hlt := wd_lt N m
  clear h
  generalize wd N m = x at hcell hb hlt
  have HB := Hid.mk hb
  clear hb
  obtain ⟨y1, e1, b1, l1⟩ : ∃ y : Nat, bits .or .u64 (x : Int) ((x : Int) / 2) = (y : Int) ∧ blen y = blen x ∧ y < 18446744073709551616 := ⟨_, or_eq x 1 2 rfl hlt, blen_or_shift x 1, or_lt x 1 hlt⟩
  obtain ⟨y2, e2, b2, l2⟩ : ∃ y : Nat, bits .or .u64 (y1 : Int) ((y1 : Int) / 4) = (y : Int) ∧ blen y = blen y1 ∧ y < 18446744073709551616 := ⟨_, or_eq y1 2 4 rfl l1, blen_or_shift y1 2, or_lt y1 2 l1⟩
  obtain ⟨y3, e3, b3, l3⟩ : ∃ y : Nat, bits .or .u64 (y2 : Int) ((y2 : Int) / 16) = (y : Int) ∧ blen y = blen y2 ∧ y < 18446744073709551616 := ⟨_, or_eq y2 4 16 rfl l2, blen_or_shift y2 4, or_lt y2 4 l2⟩
  obtain ⟨y4, e4, b4, l4⟩ : ∃ y : Nat, bits .or .u64 (y3 : Int) ((y3 : Int) / 256) = (y : Int) ∧ blen y = blen y3 ∧ y < 18446744073709551616 := ⟨_, or_eq y3 8 256 rfl l3, blen_or_shift y3 8, or_lt y3 8 l3⟩
  obtain ⟨y5, e5, b5, l5⟩ : ∃ y : Nat, bits .or .u64 (y4 : Int) ((y4 : Int) / 65536) = (y : Int) ∧ blen y = blen y4 ∧ y < 18446744073709551616 := ⟨_, or_eq y4 16 65536 rfl l4, blen_or_shift y4 16, or_lt y4 16 l4⟩
  obtain ⟨y6, e6, b6, l6⟩ : ∃ y : Nat, bits .or .u64 (y5 : Int) ((y5 : Int) / 65536 / 65536) = (y : Int) ∧ blen y = blen y5 ∧ y < 18446744073709551616 := by
    have e : (y5 : Int) / 65536 / 65536 = (y5 : Int) / 4294967296 := by omega
    rw [e]
    exact ⟨_, or_eq y5 32 4294967296 rfl l5, blen_or_shift y5 32, or_lt y5 32 l5⟩
  have HE := Hid.mk (show blen y6 = blen x by rw [b6, b5, b4, b3, b2, b1])
  have HL := Hid.mk l6
  have hb64 : blen x ≤ 64 := by rw [blen_le]; simpa using hlt
  clear b1 b2 b3 b4 b5 b6 l1 l2 l3 l4 l5 l6 hlt
  go_enter Try.func20, Try.ntmps20
  go_wp2_with fail
  refine (len_any y6 w HL.out).mono ?_
  rintro e w1 ⟨rfl, rfl⟩
  rw [HE.out]
  clear e1 e2 e3 e4 e5 e6 HE HL
  go_wp2
  go_ret
  refine ⟨ret_int ?_, rfl⟩
  rw [HB.out]
  omega

set_option maxHeartbeats 400000 in
theorem natBitLen_none (a : Option Addr) (c : Nat) (w : World) :
    Calls Try.prog 20 #[.slice a 0 c] w fun e w' => e = .returned (.int .i64 0) ∧ w' = w := by
  go_enter Try.func20, Try.ntmps20
  go_wp2
  go_ret
  exact ⟨rfl, rfl⟩

theorem natBitLen_any (a : Option Addr) (m c b off N : Nat) (w : World) (h : NatAt w a m b off N) :
    Calls Try.prog 20 #[.slice a m c] w fun e w' => e = .returned (.int .i64 (blen N)) ∧ w' = w := by
  cases m with
  | zero =>
    have hN : N = 0 := by have := h.all; simpa using this
    subst hN
    exact (natBitLen_none a c w).mono fun e w' ⟨he, hw⟩ => ⟨he, hw⟩
  | succ m => exact natBitLen_some a m c b off N w h

set_option maxHeartbeats 400000 in
/-- (*Int).BitLen: the words lie behind the second field. -/
theorem bitLen_any (zb zo : Nat) (a : Option Addr) (m c b off N : Nat) (w : World) (h : NatAt w a m b off N) (hc : w.cell? ⟨zb, zo + 1, none⟩ = some (.slice a m c)) :
    Calls Try.prog 12 #[.pointer (some ⟨zb, zo, none⟩)] w fun e w' => e = .returned (.int .i64 (blen N)) ∧ w' = w := by
  go_enter Try.func12, Try.ntmps12
  go_wp2_with fail
  refine (natBitLen_any a m c b off N w h).mono ?_
  rintro e w1 ⟨rfl, rfl⟩
  go_wp2
  go_ret
  exact ⟨rfl, rfl⟩
end Go.Proofs.Qxb6615958a
