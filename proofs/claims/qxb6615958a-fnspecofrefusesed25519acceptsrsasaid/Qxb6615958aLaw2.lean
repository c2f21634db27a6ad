import Derived.Test.Qxb6615958aLaw
namespace Go.Proofs.Qxb6615958a
open Go.RowKit
open Go.Extern.Stop Go.Stop Go.Extern

theorem slice_more (w w' : World) (n : Nat) (h : n ≠ 0) : (Instr.slice 22 (.slice (some ⟨w.heap.size, 0, none⟩) (n + 1) (n + 1)) (some (.int .i64 1)) none none).run Try.prog w' = .ok (.slice (some ⟨w.heap.size, 1, none⟩) n n) w' := by
  go_simp
  intro h1
  omega
theorem slice_none (w w' : World) : (Instr.slice 22 (.slice (some ⟨w.heap.size, 0, none⟩) 1 1) (some (.int .i64 1)) none none).run Try.prog w' = .ok (.slice (some ⟨w.heap.size, 0, none⟩) 0 0) w' := by
  go_simp

theorem copied2 {w : World} {a : Option Addr} {n b o : Nat} {bs : List Nat} (h : ByteRow w a n b o bs) (c : Nat) :
    ∃ A w2, (∀ w', (Instr.slice 22 (.slice (some ⟨w.heap.size, 0, none⟩) (n + 1) (n + 1)) (some (.int .i64 1)) none none).run Try.prog w' = .ok (.slice A n n) w') ∧
      Sem.run Try.prog (Builtin.copy_ #[22, 22] 3 #[.slice A n n, .slice a n c]) (w.alloc (.cells (madeCells #[.int .u8 0] (n + 1)) 5)) = .ok (.int .i64 n) w2 ∧
      ByteRow w2 (some ⟨w.heap.size, 0, none⟩) (n + 1) w.heap.size 0 (0 :: bs) ∧ Below w.heap.size w w2 := by
  by_cases h0 : n = 0
  · subst h0
    obtain ⟨w2, h1, h2, h3⟩ := copied h c 0 1 (by omega)
    have hb : bs = [] := List.eq_nil_of_length_eq_zero h.long
    subst hb
    have hr := run_copy_none (P := Try.prog) (w.alloc (.cells (madeCells #[.int .u8 0] 1) 5)) 22 22 3 5 (some ⟨w.heap.size, 0, none⟩) a 1 1 0 c Try.underlying22 size5 rfl
    have h1' := hr.symm.trans h1
    cases h1'
    exact ⟨_, _, fun w' => slice_none w w', run_copy_none (P := Try.prog) _ 22 22 3 5 _ _ _ _ _ _ Try.underlying22 size5 rfl, h2, h3⟩
  · obtain ⟨w2, h1, h2, h3⟩ := copied h c 1 (n + 1) (by omega)
    refine ⟨_, w2, fun w' => slice_more w w' n h0, ?_, ?_, h3⟩
    · simpa using h1
    · simpa using h2

set_option maxRecDepth 4000 in
set_option maxHeartbeats 4000000 in
theorem law2 (a : Option Addr) (n c b off : Nat) (bs : List Nat) (w : World) (h : ByteRow w a n b off bs) (hn : n ≤ maxLen) (hc : n ≤ c) :
    Calls Try.prog 4 #[.slice a n c] w (Yes w) := by
  have HH := Hid.mk h
  clear h
  go_enter Try.func4, Try.ntmps4
  go_wp2_with fail
  refine (zzBytes2 a n c w hn).mono ?_
  rintro e w1 ⟨rfl, rfl⟩
  by_cases hn' : n ≤ 1048576
  · rw [decide_eq_true hn']
    go_upto_if 23 with fail
    go_cut [0] (fun v0 wx => (∃ a b o c, v0 = .slice a n c ∧ n ≤ c ∧ ByteRow wx a n b o bs) ∧ Below w1.heap.size w1 wx)
    case first =>
      have hmk := run_make_row' (P := Try.prog) 22 5 (.int .u8 0) 1 Try.underlying22 info5 rfl .i64 .i64 n (by omega) (by omega)
      obtain ⟨w2, hcp, hnew, hB2⟩ := copied0 HH.out c
      have HN := Hid.mk hnew
      have HB := Hid.mk hB2
      clear hnew hB2
      go_wp2
      · go_meet
        exact ⟨⟨_, _, _, _, rfl, Nat.le_refl _, HN.out⟩, HB.out⟩
      · go_meet
        exact ⟨⟨_, _, _, _, rfl, hc, HH.out⟩, Below.refl _ _⟩
    case rest =>
      obtain ⟨⟨a1, b1, o1, c1, rfl, hc1, hr1⟩, hB1⟩ := hcut
      clear HH hc
      have HR1 := Hid.mk hr1
      have HB1 := Hid.mk hB1
      clear hr1 hB1
      go_wp2_with fail
      refine (zzEd a1 n c1 _).mono ?_
      rintro e w2 ⟨rfl, hB2⟩
      have HR2 := Hid.mk (HR1.out.below hB2)
      have HB2 := Hid.mk (HB1.out.trans (hB2.mono HB1.out.size))
      clear hB2 HR1 HB1
      go_wp2_with fail
      refine (zzRSA a1 n c1 b1 o1 bs _ HR2.out (by omega) hc1).mono ?_
      rintro e w3 ⟨rfl, hB3⟩
      have HR3 := Hid.mk (HR2.out.below hB3)
      have HB3 := Hid.mk (HB2.out.trans (hB3.mono HB2.out.size))
      clear hB3 HR2 HB2
      have hmk := make_more n (by omega)
      obtain ⟨A4, w4, hsl, hcp, hnew, hB4⟩ := copied2 HR3.out c1
      have HR4 := Hid.mk (HR3.out.below hB4)
      have HR5 := Hid.mk hnew
      have HB4 := Hid.mk (HB3.out.trans (hB4.mono HB3.out.size))
      clear HR3 HB3 hB4 hnew
      go_wp2_with fail
      refine (zzRSA _ (n + 1) (n + 1) w3.heap.size 0 (0 :: bs) _ HR5.out (by omega) (Nat.le_refl _)).mono ?_
      rintro e w5 ⟨rfl, hB5⟩
      have HR6 := Hid.mk (HR4.out.below hB5)
      have HB6 := Hid.mk (HB4.out.trans (hB5.mono HB4.out.size))
      clear HR4 HR5 HB4 hB5 hcp hsl
      rw [num_cons]
      have hup := num_upper HR6.out.small
      rw [HR6.out.long] at hup
      by_cases h0 : n = 0
      · subst h0
        clear HR6
        generalize blen (num bs) = x at hup
        have hx : x = 0 := by omega
        subst hx
        go_wp2
        go_ret
        exact ⟨rfl, HB6.out⟩
      · have hix : ∀ w', (Instr.indexAt 22 (.slice a1 n c1) (.int .i64 0)).run Try.prog w' = .ok (.pointer (some ⟨b1, o1, none⟩)) w' := HR6.out.at c1 0 (by omega)
        have hcell : w5.cell? ⟨b1, o1, none⟩ = some (.int .u8 ((bs.getD 0 0 : Nat) : Int)) := HR6.out.cells 0 (by omega)
        have hlow := num_lower (bs := bs) (by have := HR6.out.long; omega)
        rw [HR6.out.long] at hlow
        clear HR6
        by_cases hb : bs.getD 0 0 = 0
        · rw [hb] at hcell
          clear hlow hb
          generalize blen (num bs) = x at hup
          go_wp2
          go_ret
          exact ⟨rfl, HB6.out⟩
        · have hlow' := hlow hb
          clear hlow
          have hb' : ((bs.getD 0 0 : Nat) : Int) ≠ 0 := by omega
          generalize bs.getD 0 0 = y at hcell hb hb'
          generalize blen (num bs) = x at hup hlow'
          go_wp2
          go_ret
          exact ⟨congrArg (fun b => Ending.returned (.bool b)) (a₂ := true) (decide_eq_true (by omega)), HB6.out⟩
  · rw [decide_eq_false hn']
    go_wp2
    go_ret
    exact ⟨rfl, Below.refl _ _⟩
end Go.Proofs.Qxb6615958a
