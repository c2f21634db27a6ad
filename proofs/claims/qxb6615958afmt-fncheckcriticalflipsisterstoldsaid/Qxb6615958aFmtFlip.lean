import Derived.Test.Qxb6615958aFmtCopy
namespace Go.Proofs.Qxb6615958aFmt
open Go.RowKit
open Go.Extern.Stop Go.Stop Go.Extern

set_option maxHeartbeats 2000000 in
set_option maxRecDepth 10000 in
theorem flip_walk (F : Interp) (a0 a1 a2 : Option Addr) (n c0 b0 o0 n1 c1 b1 o1 n2 c2 b2 o2 : Nat) (rs : List Row) (bs : List Bool) (zs : List Int) (name : ByteArray) (w : World) (hF : F.answers w.tape) (hs : name.size ≤ maxLen)
    (hr : IdsRow w a0 n b0 o0 rs) (hb : BoolRow w a1 n1 b1 o1 bs) (hi : IntRow w a2 n2 b2 o2 zs) :
    Calls Tryf.prog 4 #[.slice a0 n c0, .slice a1 n1 c1, .slice a2 n2 c2, .string name] w fun e w' => Yes w e w' := by
  unfold maxLen at hs
  have h1 := hb.short
  have h2 := hi.short
  go_enter Tryf.func4, Tryf.ntmps4
  go_wp2_with fail
  refine (bytes10_any a0 a1 a2 n c0 b0 o0 n1 c1 n2 c2 rs name w h1 h2 hs hr).mono ?_
  rintro e w ⟨⟨r, rfl⟩, rfl⟩
  cases r
  · go_wp2
    go_ret
    exact ⟨rfl, Below.refl _ _⟩
  go_wp2_with fail
  refine (tooBig_any a0 a1 a2 n c0 b0 o0 n1 c1 n2 c2 rs name w h1 h2 hs hr).mono ?_
  rintro e w ⟨⟨r, rfl, hN⟩, rfl⟩
  cases r
  rotate_left
  · go_wp2
    go_ret
    exact ⟨rfl, Below.refl _ _⟩
  obtain ⟨g0, g1, g2, _⟩ := hN rfl
  clear hN h1 h2 hs
  go_upto_if 29 with fail
  go_cut [1] (fun v1 wx => (∃ a b o c, v1 = .slice a n1 c ∧ BoolRow wx a n1 b o bs) ∧ Below w.heap.size w wx)
  case first =>
    have hmk := run_make_row' (P := Tryf.prog) 23 4 (.bool false) 1 Tryf.underlying23 Tryf.info4 rfl .i64 .i64 n1 (by omega) (by omega)
    obtain ⟨w2, hcp, hnew, hB2⟩ := copied_bools hb c1
    have HN := Hid.mk hnew
    have HB := Hid.mk hB2
    clear hnew hB2 hr hi
    go_wp2
    · go_meet
      exact ⟨⟨_, _, _, _, rfl, HN.out⟩, HB.out⟩
    · go_meet
      exact ⟨⟨_, _, _, _, rfl, hb⟩, Below.refl _ _⟩
  case rest =>
    obtain ⟨⟨a1', b1', o1', c1', rfl, hb'⟩, hB0⟩ := hcut
    have hr' := hr.below hB0
    have hi' := hi.below hB0
    clear hr hb hi
    go_upto_if 38 with fail
    go_cut [2] (fun v2 wx => (∃ a b o c, v2 = .slice a n2 c ∧ IntRow wx a n2 b o zs) ∧ Below wc.heap.size wc wx)
    case first =>
      have hmk := run_make_row' (P := Tryf.prog) 24 3 (.int .i64 0) 8 Tryf.underlying24 Tryf.info3 rfl .i64 .i64 n2 (by omega) (by omega)
      obtain ⟨w2, hcp, hnew, hB2⟩ := copied_ints hi' c2
      have HN := Hid.mk hnew
      have HB := Hid.mk hB2
      clear hnew hB2 hr' hb'
      go_wp2
      · go_meet
        exact ⟨⟨_, _, _, _, rfl, HN.out⟩, HB.out⟩
      · go_meet
        exact ⟨⟨_, _, _, _, rfl, hi'⟩, Below.refl _ _⟩
    case rest =>
      obtain ⟨⟨a2', b2', o2', c2', rfl, hi''⟩, hB1⟩ := hcut
      have hr'' := hr'.below hB1
      have hb'' := hb'.below hB1
      have hB := hB0.trans (hB1.mono hB0.size)
      have hF1 : F.answers wc.tape := by rw [hB.tape]; exact hF
      clear hr' hb' hi' hB0 hB1 hF
      have hmk := run_make_row' (P := Tryf.prog) 23 4 (.bool false) 1 Tryf.underlying23 Tryf.info4 rfl .i64 .i64 n (by omega) (by omega)
      go_wp2_with fail
      clear hmk
      go_loopg [12] n (fun q i wr => ∃ k : Nat, k ≤ n ∧ q = n - k ∧ i = .int .i64 k ∧ FlagC wr wc.heap.size n (fun j => !bs.getD j false) k ∧ Below wc.heap.size wc wr)
      case atStart => exact ⟨0, Nat.zero_le _, rfl, rfl, FlagC.made wc n _, (Below.refl _ _).alloc (Nat.le_refl _) _⟩
      case round =>
        obtain ⟨k, hk, rfl, rfl, hx, hBx⟩ := hrel
        by_cases hlt : k < n
        · have HB := Hid.mk hBx
          have HX := Hid.mk hx
          have hbq := hb''.below hBx
          have e0 := hx.cells k hlt
          have f0 := hx.free k
          rw [if_neg (Nat.lt_irrefl k)] at e0
          clear hx hBx hr'' hb'' hi'' hB
          go_wp2_with fail
          refine (critAt_any a1' n1 c1' b1' o1' k bs wr hbq).mono ?_
          rintro e w ⟨rfl, rfl⟩
          generalize hv : bs.getD k false = v
          have HV := Hid.mk hv
          clear hv hbq
          go_wp2
          go_roundg (n - (k + 1))
          case measure => omega
          case rel => exact ⟨k + 1, by omega, rfl, by first | rfl | go_num, HX.out.step hlt (!v) (by rw [← HV.out]), HB.out.setCell (Nat.le_refl _) _⟩
        · have hk' : k = n := by omega
          have hfl : BoolRow wr (some ⟨wc.heap.size, 0, none⟩) n wc.heap.size 0 ((List.range n).map fun j => !bs.getD j false) := by
            rw [hk'] at hx
            exact hx.row (by omega)
          have hlen := hr''.long
          have hF2 : F.answers wr.tape := by rw [hBx.tape]; exact hF1
          have hrA := hr''.below hBx
          have hbA := hb''.below hBx
          have hiA := hi''.below hBx
          have HW := Hid.mk (hB.trans (hBx.mono hB.size))
          clear hk' hx hr'' hb'' hi'' hB hBx hF1
          go_wp2_with fail
          refine (zz_any F a0 a1' a2' n c0 b0 o0 n1 c1' b1' o1' n2 c2' b2' o2' rs bs zs name wr hF2 (by omega) hrA hbA hiA).mono ?_
          rintro e w1 ⟨⟨vA, rfl, hA⟩, hB1⟩
          have hF3 : F.answers w1.tape := by rw [hB1.tape]; exact hF2
          have hrB := hrA.below hB1
          have hbB := hbA.below hB1
          have hiB := hiA.below hB1
          have hflB := hfl.below hB1
          have HW1 := Hid.mk (HW.out.trans (hB1.mono HW.out.size))
          have HA := Hid.mk hA
          clear hA hB1 hF2 hrA hbA hiA hfl HW
          go_wp2_with fail
          refine (zz_any F a0 _ a2' n c0 b0 o0 n n _ _ n2 c2' b2' o2' rs _ zs name w1 hF3 (by omega) hrB hflB hiB).mono ?_
          rintro e w2 ⟨⟨vB, rfl, hBB⟩, hB2⟩
          have hF4 : F.answers w2.tape := by rw [hB2.tape]; exact hF3
          have hrC := hrB.below hB2
          have hbC := hbB.below hB2
          have hiC := hiB.below hB2
          have HW2 := Hid.mk (HW1.out.trans (hB2.mono HW1.out.size))
          have HBB := Hid.mk hBB
          clear hBB hB2 hF3 hrB hbB hiB hflB HW1
          go_wp2_with fail
          refine (zz_any F a0 a1' a2' n c0 b0 o0 n1 c1' b1' o1' n2 c2' b2' o2' rs bs zs _ w2 hF4 (by omega) hrC hbC hiC).mono ?_
          rintro e w3 ⟨⟨vC, rfl, hC⟩, hB3⟩
          have hrD := hrC.below hB3
          have hiD := hiC.below hB3
          have HW3 := Hid.mk (HW2.out.trans (hB3.mono HW2.out.size))
          have hA := HA.out
          have hBB := HBB.out
          clear hB3 hF4 hrC hbC hiC HW2 HA HBB
          cases hh : hasB rs zs with
          | true =>
            rw [flip_has rs bs zs n hlen hh] at hBB
            have HH := Hid.mk hh
            clear hh hlen
            cases hp : passes rs bs zs n with
            | true =>
              rw [hp] at hA hBB hC
              obtain rfl := hA
              obtain rfl := hC
              obtain ⟨aB, rfl⟩ := hBB
              clear hp
              go_wp2
              go_region
              all_goals go_wp2_with fail
              refine (hasID_any a0 a2' n c0 b0 o0 n2 c2' b2' o2' rs zs w3.drew (hrD.below (Below.refl _ _).drew) (hiD.below (Below.refl _ _).drew)).mono ?_
              rintro e w4 ⟨rfl, hB4⟩
              rw [HH.out]
              have HW4 := Hid.mk (HW3.out.trans ((Below.refl _ _).drew.trans (hB4.mono HW3.out.size)))
              clear hB4 hrD hiD HW3
              go_wp2
              go_region
              all_goals go_wp2
              go_ret
              exact ⟨rfl, HW4.out.drew⟩
            | false =>
              rw [hp] at hA hBB hC
              obtain ⟨aA, rfl⟩ := hA
              obtain ⟨aC, rfl⟩ := hC
              obtain rfl := hBB
              clear hp
              go_wp2
              go_region
              all_goals go_wp2_with fail
              refine (hasID_any a0 a2' n c0 b0 o0 n2 c2' b2' o2' rs zs w3.drew (hrD.below (Below.refl _ _).drew) (hiD.below (Below.refl _ _).drew)).mono ?_
              rintro e w4 ⟨rfl, hB4⟩
              rw [HH.out]
              have HW4 := Hid.mk (HW3.out.trans ((Below.refl _ _).drew.trans (hB4.mono HW3.out.size)))
              clear hB4 hrD hiD HW3
              go_wp2
              go_region
              all_goals go_wp2
              go_ret
              exact ⟨rfl, HW4.out.drew⟩
          | false =>
            rw [pass_not rs bs zs n hlen hh] at hA hC
            rw [pass_not rs _ zs n hlen hh] at hBB
            have HH := Hid.mk hh
            clear hh hlen
            obtain ⟨aA, rfl⟩ := hA
            obtain ⟨aC, rfl⟩ := hC
            obtain ⟨aB, rfl⟩ := hBB
            go_wp2
            go_region
            all_goals go_wp2_with fail
            refine (hasID_any a0 a2' n c0 b0 o0 n2 c2' b2' o2' rs zs w3.drew (hrD.below (Below.refl _ _).drew) (hiD.below (Below.refl _ _).drew)).mono ?_
            rintro e w4 ⟨rfl, hB4⟩
            rw [HH.out]
            have HW4 := Hid.mk (HW3.out.trans ((Below.refl _ _).drew.trans (hB4.mono HW3.out.size)))
            clear hB4 hrD hiD HW3
            go_wp2
            go_ret
            exact ⟨rfl, HW4.out⟩
end Go.Proofs.Qxb6615958aFmt
