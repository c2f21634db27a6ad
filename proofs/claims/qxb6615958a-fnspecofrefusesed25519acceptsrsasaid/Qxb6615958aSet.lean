import Derived.Test.Qxb6615958aLen
import Derived.Deep.OwnRows
namespace Go.Proofs.Qxb6615958a
open Go.RowKit

theorem eight (b0 b1 b2 b3 b4 b5 b6 b7 : Nat) (h0 : b0 < 256) (h1 : b1 < 256) (h2 : b2 < 256) (h3 : b3 < 256) (h4 : b4 < 256) (h5 : b5 < 256) (h6 : b6 < 256) (h7 : b7 < 256) :
    bits .or .u64 (bits .or .u64 (bits .or .u64 (bits .or .u64 (bits .or .u64 (bits .or .u64 (bits .or .u64 (b7 : Int) ((b6 : Int) * 256)) ((b5 : Int) * 65536)) ((b4 : Int) * 16777216)) ((b3 : Int) * 4294967296)) ((b2 : Int) * 1099511627776)) ((b1 : Int) * 281474976710656)) ((b0 : Int) * 72057594037927936) =
      ((b0 * 72057594037927936 + b1 * 281474976710656 + b2 * 1099511627776 + b3 * 4294967296 + b4 * 16777216 + b5 * 65536 + b6 * 256 + b7 : Nat) : Int) := by
  rw [u64_or8 ((b7 : Int)) ((b6 : Int) * 256) (by omega) (by omega) (by omega) (by omega) (by omega)]
  rw [u64_or16 ((b7 : Int) + ((b6 : Int) * 256)) ((b5 : Int) * 65536) (by omega) (by omega) (by omega) (by omega) (by omega)]
  rw [u64_or24 ((b7 : Int) + ((b6 : Int) * 256) + ((b5 : Int) * 65536)) ((b4 : Int) * 16777216) (by omega) (by omega) (by omega) (by omega) (by omega)]
  rw [u64_or32 ((b7 : Int) + ((b6 : Int) * 256) + ((b5 : Int) * 65536) + ((b4 : Int) * 16777216)) ((b3 : Int) * 4294967296) (by omega) (by omega) (by omega) (by omega) (by omega)]
  rw [u64_or40 ((b7 : Int) + ((b6 : Int) * 256) + ((b5 : Int) * 65536) + ((b4 : Int) * 16777216) + ((b3 : Int) * 4294967296)) ((b2 : Int) * 1099511627776) (by omega) (by omega) (by omega) (by omega) (by omega)]
  rw [u64_or48 ((b7 : Int) + ((b6 : Int) * 256) + ((b5 : Int) * 65536) + ((b4 : Int) * 16777216) + ((b3 : Int) * 4294967296) + ((b2 : Int) * 1099511627776)) ((b1 : Int) * 281474976710656) (by omega) (by omega) (by omega) (by omega) (by omega)]
  rw [u64_or56 ((b7 : Int) + ((b6 : Int) * 256) + ((b5 : Int) * 65536) + ((b4 : Int) * 16777216) + ((b3 : Int) * 4294967296) + ((b2 : Int) * 1099511627776) + ((b1 : Int) * 281474976710656)) ((b0 : Int) * 72057594037927936) (by omega) (by omega) (by omega) (by omega) (by omega)]
  omega

set_option maxHeartbeats 8000000 in
set_option maxRecDepth 100000 in
/-- internal/byteorder.BEUint64: the number that the first 8 bytes spell. -/
theorem be64_any (g o n c : Nat) (b0 b1 b2 b3 b4 b5 b6 b7 : Nat) (w : World) (hn : 8 ≤ n)
    (c0 : w.cell? ⟨g, o, none⟩ = some (.int .u8 (b0 : Int))) (c1 : w.cell? ⟨g, o + 1, none⟩ = some (.int .u8 (b1 : Int))) (c2 : w.cell? ⟨g, o + 2, none⟩ = some (.int .u8 (b2 : Int))) (c3 : w.cell? ⟨g, o + 3, none⟩ = some (.int .u8 (b3 : Int)))
    (c4 : w.cell? ⟨g, o + 4, none⟩ = some (.int .u8 (b4 : Int))) (c5 : w.cell? ⟨g, o + 5, none⟩ = some (.int .u8 (b5 : Int))) (c6 : w.cell? ⟨g, o + 6, none⟩ = some (.int .u8 (b6 : Int))) (c7 : w.cell? ⟨g, o + 7, none⟩ = some (.int .u8 (b7 : Int)))
    (h0 : b0 < 256) (h1 : b1 < 256) (h2 : b2 < 256) (h3 : b3 < 256) (h4 : b4 < 256) (h5 : b5 < 256) (h6 : b6 < 256) (h7 : b7 < 256) :
    Calls Try.prog 25 #[.slice (some ⟨g, o, none⟩) n c] w fun e w' => e = .returned (.int .u64 ((b0 * 72057594037927936 + b1 * 281474976710656 + b2 * 1099511627776 + b3 * 4294967296 + b4 * 16777216 + b5 * 65536 + b6 * 256 + b7 : Nat) : Int)) ∧ Below w.heap.size w w' := by
  have q0 : 0 < n := by omega
  have q1 : (1 : Int) < (n : Int) := by omega
  have q2 : (2 : Int) < (n : Int) := by omega
  have q3 : (3 : Int) < (n : Int) := by omega
  have q4 : (4 : Int) < (n : Int) := by omega
  have q5 : (5 : Int) < (n : Int) := by omega
  have q6 : (6 : Int) < (n : Int) := by omega
  have q7 : (7 : Int) < (n : Int) := by omega
  go_enter Try.func25, Try.ntmps25
  go_wp2
  go_quiet (fail)
  go_wp2
  go_ret
  exact ⟨ret_int (eight b0 b1 b2 b3 b4 b5 b6 b7 h0 h1 h2 h3 h4 h5 h6 h7), ⟨rfl, rfl, rfl, Nat.le_refl _, fun _ _ => rfl⟩⟩

set_option maxHeartbeats 400000 in
theorem word_any (g o n c : Nat) (b0 b1 b2 b3 b4 b5 b6 b7 : Nat) (w : World) (hn : 8 ≤ n)
    (c0 : w.cell? ⟨g, o, none⟩ = some (.int .u8 (b0 : Int))) (c1 : w.cell? ⟨g, o + 1, none⟩ = some (.int .u8 (b1 : Int))) (c2 : w.cell? ⟨g, o + 2, none⟩ = some (.int .u8 (b2 : Int))) (c3 : w.cell? ⟨g, o + 3, none⟩ = some (.int .u8 (b3 : Int)))
    (c4 : w.cell? ⟨g, o + 4, none⟩ = some (.int .u8 (b4 : Int))) (c5 : w.cell? ⟨g, o + 5, none⟩ = some (.int .u8 (b5 : Int))) (c6 : w.cell? ⟨g, o + 6, none⟩ = some (.int .u8 (b6 : Int))) (c7 : w.cell? ⟨g, o + 7, none⟩ = some (.int .u8 (b7 : Int)))
    (h0 : b0 < 256) (h1 : b1 < 256) (h2 : b2 < 256) (h3 : b3 < 256) (h4 : b4 < 256) (h5 : b5 < 256) (h6 : b6 < 256) (h7 : b7 < 256) (V : Nat) (hV : V = b0 * 72057594037927936 + b1 * 281474976710656 + b2 * 1099511627776 + b3 * 4294967296 + b4 * 16777216 + b5 * 65536 + b6 * 256 + b7) :
    Calls Try.prog 22 #[.slice (some ⟨g, o, none⟩) n c] w fun e w' => e = .returned (.int .u64 (V : Int)) ∧ Below w.heap.size w w' := by
  have HV := Hid.mk hV
  clear hV
  go_enter Try.func22, Try.ntmps22
  go_wp2_with fail
  refine (be64_any g o n c b0 b1 b2 b3 b4 b5 b6 b7 w hn c0 c1 c2 c3 c4 c5 c6 c7 h0 h1 h2 h3 h4 h5 h6 h7).mono ?_
  rintro e w1 ⟨rfl, hB⟩
  rw [← HV.out]
  clear c0 c1 c2 c3 c4 c5 c6 c7 h0 h1 h2 h3 h4 h5 h6 h7 HV
  go_wp2
  go_ret
  exact ⟨rfl, hB⟩

theorem info51 : (Try.prog.info? 51).map (fun i => (i.zero, i.size, i.bytes)) = some (some (.int .u64 0), 1, 8) := by kernel_rfl

theorem run_makeNat (n c : Nat) (hnc : n ≤ c) (hc : c ≤ 2000000) (w : World) :
    (Instr.makeSlice 36 (.int .i64 (n : Int)) (.int .i64 (c : Int))).run Try.prog w = .ok (.slice (some ⟨w.heap.size, 0, none⟩) n c) (w.alloc (.cells (madeCells #[.int .u64 0] c) 51)) := by
  obtain ⟨i, hi, hzz⟩ := Option.map_eq_some_iff.1 info51
  simp only [Prod.mk.injEq] at hzz
  obtain ⟨hz, hs, hb⟩ := hzz
  have := run_make (P := Try.prog) w 36 51 i _ Try.underlying36 hi hz .i64 .i64 n c (by omega) (by omega) (by rw [hb]; omega) (by omega)
  rw [hs] at this
  simpa [Value.cells] using this

set_option maxHeartbeats 400000 in
theorem make_none (w : World) : Calls Try.prog 21 #[.slice none 0 0, .int .i64 0] w fun e w' => e = .returned (.slice none 0 0) ∧ w' = w := by
  go_enter Try.func21, Try.ntmps21
  go_wp2
  go_ret
  exact ⟨rfl, rfl⟩

set_option maxHeartbeats 400000 in
theorem make_some (n : Nat) (h : 1 ≤ n) (hn : n ≤ 1000000) (w : World) :
    Calls Try.prog 21 #[.slice none 0 0, .int .i64 n] w fun e w' => ∃ c, n ≤ c ∧ c ≤ 2000000 ∧ e = .returned (.slice (some ⟨w.heap.size, 0, none⟩) n c) ∧ w' = w.alloc (.cells (madeCells #[.int .u64 0] c) 51) := by
  by_cases h1 : n = 1
  · subst h1
    have hmk := run_makeNat 1 1 (Nat.le_refl _) (by omega)
    have e1 : ((1 : Nat) : Int) = 1 := rfl
    rw [e1] at hmk ⊢
    clear e1
    go_enter Try.func21, Try.ntmps21
    go_wp2
    go_ret
    exact ⟨1, Nat.le_refl _, by omega, rfl, rfl⟩
  · have hmk := run_makeNat n (n + 4) (by omega) (by omega)
    have ec : ((n + 4 : Nat) : Int) = (n : Int) + 4 := by omega
    rw [ec] at hmk
    clear ec
    have h1' : ((n : Int) == 1) = false := by simpa using (by omega : (n : Int) ≠ 1)
    go_enter Try.func21, Try.ntmps21
    go_wp2
    go_ret
    exact ⟨n + 4, by omega, by omega, rfl, rfl⟩

set_option maxHeartbeats 1000000 in
/-- norm: the leading noughts go. -/
theorem norm_any (a : Option Addr) (n c b off N : Nat) (w : World) (hnc : n ≤ c) (hs : n ≤ 1000000) (here : 0 < n → a = some ⟨b, off, none⟩) (cells : ∀ k, k < n → w.cell? ⟨b, off + k, none⟩ = some (.int .u64 (wd N k : Nat))) (all : N / 2 ^ (64 * n) = 0) :
    Calls Try.prog 23 #[.slice a n c] w fun e w' => (∃ m, e = .returned (.slice a m c) ∧ NatAt w a m b off N) ∧ w' = w := by
  have hix : ∀ k, k < n → ∀ w' : World, (Instr.indexAt 36 (.slice a n c) (.int .i64 k)).run Try.prog w' = .ok (.pointer (some ⟨b, off + k, none⟩)) w' := by
    intro k hk w'
    rw [here (by omega)]
    go_simp
  go_enter Try.func23, Try.ntmps23
  go_wp2
  go_loopg [3] (n + 1) (fun g i wr => wr = w ∧ ∃ k : Nat, k ≤ n ∧ g = k + 1 ∧ i = .int .i64 k ∧ N / 2 ^ (64 * k) = 0)
  case atStart => exact ⟨rfl, n, Nat.le_refl _, rfl, rfl, all⟩
  case round =>
    obtain ⟨rfl, k, hk, rfl, rfl, hz⟩ := hrel
    cases k with
    | zero =>
      have HN := Hid.mk (show NatAt wr a 0 b off N from ⟨fun h => by omega, fun k hk => by omega, by omega, hz, fun h => by omega⟩)
      clear hix here cells all hz
      go_wp2
      go_ret
      exact ⟨⟨0, rfl, HN.out⟩, rfl⟩
    | succ k =>
      have hx := hix k (by omega)
      have hcell := cells k (by omega)
      by_cases ht : wd N k = 0
      · have HZ := Hid.mk (wd_step N k hz ht)
        rw [ht] at hcell
        clear hix here cells all hz ht
        go_wp2
        go_roundg (k + 1)
        case measure => omega
        case rel => exact ⟨rfl, k, by omega, rfl, rfl, HZ.out⟩
      · have HN := Hid.mk (show NatAt wr a (k + 1) b off N from ⟨fun _ => here (by omega), fun j hj => cells j (by omega), by omega, hz, fun _ => by simpa using ht⟩)
        have ht' : ((wd N k : Nat) : Int) ≠ 0 := by omega
        generalize ((wd N k : Nat) : Int) = x at hcell ht'
        have hb : (x == 0) = false := by simpa using ht'
        clear hix here cells all hz ht ht'
        go_wp2
        go_ret
        exact ⟨⟨k + 1, rfl, HN.out⟩, rfl⟩
end Go.Proofs.Qxb6615958a
