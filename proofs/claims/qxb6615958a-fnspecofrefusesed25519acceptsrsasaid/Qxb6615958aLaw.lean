import Derived.Test.Qxb6615958aCopy
namespace Go.Proofs.Qxb6615958a
open Go.RowKit
open Go.Extern.Stop Go.Stop Go.Extern

/-- 'true' came back, and of what was there nothing has turned. -/
def Yes (W : World) (e : Ending) (w' : World) : Prop := e = .returned (.bool true) ∧ Below W.heap.size W w'

theorem zzBytes1 (a : Option Addr) (n c : Nat) (w : World) (_hn : n ≤ maxLen) : Calls Try.prog 5 #[.slice a n c] w fun e w' => e = .returned (.bool (decide (n ≤ 1048576))) ∧ w' = w := by
  by_cases h : n ≤ 1048576
  · go_enter Try.func5, Try.ntmps5
    go_wp2
    go_ret
    simp [h]
  · go_enter Try.func5, Try.ntmps5
    go_wp2
    go_ret
    simp [h]

theorem zzBytes2 (a : Option Addr) (n c : Nat) (w : World) (_hn : n ≤ maxLen) : Calls Try.prog 8 #[.slice a n c] w fun e w' => e = .returned (.bool (decide (n ≤ 1048576))) ∧ w' = w := by
  by_cases h : n ≤ 1048576
  · go_enter Try.func8, Try.ntmps8
    go_wp2
    go_ret
    simp [h]
  · go_enter Try.func8, Try.ntmps8
    go_wp2
    go_ret
    simp [h]

theorem one_more (bs : List Nat) : List.replicate 0 0 ++ bs ++ List.replicate (bs.length + 1 - 0 - bs.length) 0 = bs ++ [0] := by
  rw [show bs.length + 1 - 0 - bs.length = 1 from by omega]
  rfl

theorem copied0 {w : World} {a : Option Addr} {n b o : Nat} {bs : List Nat} (h : ByteRow w a n b o bs) (c : Nat) :
    ∃ w2, Sem.run Try.prog (Builtin.copy_ #[22, 22] 3 #[.slice (some ⟨w.heap.size, 0, none⟩) n n, .slice a n c]) (w.alloc (.cells (madeCells #[.int .u8 0] n) 5)) = .ok (.int .i64 n) w2 ∧
      ByteRow w2 (some ⟨w.heap.size, 0, none⟩) n w.heap.size 0 bs ∧ Below w.heap.size w w2 := by
  have := copied h c 0 n (by omega)
  simpa using this

theorem copied1 {w : World} {a : Option Addr} {n b o : Nat} {bs : List Nat} (h : ByteRow w a n b o bs) (c : Nat) :
    ∃ w2, Sem.run Try.prog (Builtin.copy_ #[22, 22] 3 #[.slice (some ⟨w.heap.size, 0, none⟩) (n + 1) (n + 1), .slice a n c]) (w.alloc (.cells (madeCells #[.int .u8 0] (n + 1)) 5)) = .ok (.int .i64 n) w2 ∧
      ByteRow w2 (some ⟨w.heap.size, 0, none⟩) (n + 1) w.heap.size 0 (bs ++ [0]) ∧ Below w.heap.size w w2 := by
  have := copied h c 0 (n + 1) (by omega)
  rw [← h.long, one_more bs, h.long] at this
  simpa using this

theorem make_more (n : Nat) (hn : n ≤ 1048576) (w : World) : (Instr.makeSlice 22 (.int .i64 ((n : Int) + 1)) (.int .i64 ((n : Int) + 1))).run Try.prog w = .ok (.slice (some ⟨w.heap.size, 0, none⟩) (n + 1) (n + 1)) (w.alloc (.cells (madeCells #[.int .u8 0] (n + 1)) 5)) :=
  run_make_row' (P := Try.prog) 22 5 (.int .u8 0) 1 Try.underlying22 info5 rfl .i64 .i64 (n + 1) (by omega) (by omega) w

set_option maxHeartbeats 4000000 in
theorem law1 (a : Option Addr) (n c b off : Nat) (bs : List Nat) (w : World) (h : ByteRow w a n b off bs) (hn : n ≤ maxLen) (hc : n ≤ c) :
    Calls Try.prog 3 #[.slice a n c] w (Yes w) := by
  have HH := Hid.mk h
  clear h
  go_enter Try.func3, Try.ntmps3
  go_wp2_with fail
  refine (zzBytes1 a n c w hn).mono ?_
  rintro e w1 ⟨rfl, rfl⟩
  by_cases hn' : n ≤ 1048576
  · rw [decide_eq_true hn']
    go_upto_if 20 with fail
    go_cut [0] (fun v0 wx => (∃ a b o c, v0 = .slice a n c ∧ n ≤ c ∧ ByteRow wx a n b o bs) ∧ Below w1.heap.size w1 wx)
    case first =>
      have hmk := run_make_row' (P := Try.prog) 22 5 (.int .u8 0) 1 Try.underlying22 info5 rfl .i64 .i64 n (by omega) (by omega)
      obtain ⟨w2, hcp, hnew, hB2⟩ := copied0 HH.out c
      have HN := Hid.mk hnew
      have HB := Hid.mk hB2
      clear hnew hB2
      go_wp2
      · go_meet
        exact ⟨⟨_, _, _, _, rfl, Nat.le_refl _, HN.out⟩, HB.out⟩
      · go_meet
        exact ⟨⟨_, _, _, _, rfl, hc, HH.out⟩, Below.refl _ _⟩
    case rest =>
      obtain ⟨⟨a1, b1, o1, c1, rfl, hc1, hr1⟩, hB1⟩ := hcut
      clear HH hc
      have HR1 := Hid.mk hr1
      have HB1 := Hid.mk hB1
      clear hr1 hB1
      go_wp2_with fail
      refine (zzRSA a1 n c1 b1 o1 bs _ HR1.out (by omega) hc1).mono ?_
      rintro e w2 ⟨rfl, hB2⟩
      have HR2 := Hid.mk (HR1.out.below hB2)
      have HB2 := Hid.mk (HB1.out.trans (hB2.mono HB1.out.size))
      clear hB2 HR1 HB1
      have hmk := make_more n (by omega)
      obtain ⟨w3, hcp, hnew, hB3⟩ := copied1 HR2.out c1
      have HR3 := Hid.mk hnew
      have HR4 := Hid.mk (HR2.out.below hB3)
      have HB3 := Hid.mk (HB2.out.trans (hB3.mono HB2.out.size))
      clear HR2 HB2 hB3 hnew
      go_wp2_with fail
      refine (zzRSA _ (n + 1) (n + 1) w2.heap.size 0 (bs ++ [0]) _ HR3.out (by omega) (Nat.le_refl _)).mono ?_
      rintro e w4 ⟨rfl, hB4⟩
      have HR5 := Hid.mk (HR4.out.below hB4)
      have HB5 := Hid.mk (HB3.out.trans (hB4.mono HB3.out.size))
      clear HR3 HR4 HB3 hB4 hcp
      have hup := num_upper HR5.out.small
      rw [HR5.out.long] at hup
      go_wp2_with fail
      refine (bitLenBytes_any a1 n c1 b1 o1 bs _ HR5.out (by omega)).mono ?_
      rintro e w5 ⟨rfl, rfl⟩
      clear HR5
      by_cases hz : num bs = 0
      · have h1 : blen (num bs) = 0 := by rw [hz]; rfl
        have h2 : blen (num (bs ++ [0])) = 0 := by rw [num_shift, hz]; rfl
        rw [h1, h2]
        go_wp2
        go_ret
        exact ⟨rfl, HB5.out⟩
      · have h1 : blen (num (bs ++ [0])) = blen (num bs) + 8 := by rw [num_shift]; exact blen_mul _ 8 hz
        have h2 := blen_pos hz
        rw [h1]
        have h3 : ((blen (num bs) : Nat) : Int) ≠ 0 := by omega
        generalize blen (num bs) = x at hup h2 h3
        have h4 : (((x + 8 : Nat) : Int) == (x : Int) + 8) = true := by simp
        go_wp2
        go_ret
        exact ⟨rfl, HB5.out⟩
  · rw [decide_eq_false hn']
    go_wp2
    go_ret
    exact ⟨rfl, Below.refl _ _⟩
end Go.Proofs.Qxb6615958a
