import Derived.Test.Qxb6615958aFmtIns
namespace Go.Proofs.Qxb6615958aFmt
open Go.RowKit
open Go.Extern.Stop Go.Stop Go.Extern

/-- The element that is put in. -/
def rid (a2 : Option Addr) (n2 c2 b2 o2 : Nat) (zs : List Int) : Row := ⟨a2, n2, c2, b2, o2, zs⟩

def f1 (rs : List Row) (q : Nat) (r : Row) (j : Nat) : Value := (insF q (fun j => rs.getD j Row.nil) r j).val
def f2 (bs : List Bool) (q : Nat) (c : Bool) (j : Nat) : Value := .bool (insF q (fun j => bs.getD j false) c j)

theorem done_k {q k : Nat} (_h : k < q) : doneAt q k k = false := by unfold doneAt; simp; omega
theorem done_k1 {q k : Nat} (_h : q ≤ k) : doneAt q k (k + 1) = false := by unfold doneAt; simp
theorem done_q (q n : Nat) : doneAt q n q = false := by unfold doneAt; simp

theorem IdsRow.take {w : World} {a : Option Addr} {n b o : Nat} {rs : List Row} (h : IdsRow w a n b o rs) {q : Nat} (hq : q ≤ n) : IdsRow w a q b o (rs.take q) :=
  ⟨fun h0 => h.here (by omega), fun k hk => by rw [getD_take, if_pos hk]; exact h.cells k (by omega), by rw [List.length_take, h.long]; omega, by have := h.short; omega, fun r hr => h.rows r (List.mem_of_mem_take hr)⟩

/-- What the two last stores leave. -/
theorem behind {wc wr : World} {rs : List Row} {bs : List Bool} {n q : Nat} {r : Row} {c : Bool} (hq : q ≤ n) (hn : n ≤ 131072) (hx1 : FillC wr wc.heap.size (n + 1) (f1 rs q r) (.slice none 0 0) (doneAt q n)) (hx2 : FillC wr (wc.heap.size + 1) (n + 1) (f2 bs q c) (.bool false) (doneAt q n))
    (hB : Below wc.heap.size wc wr) (hrows : ∀ k, (rs.getD k Row.nil).ok wc) (hr : r.ok wc) (w6 : World) (h6 : w6 = (wr.setCell ⟨wc.heap.size, q, none⟩ (.slice r.a r.len r.cap)).setCell ⟨wc.heap.size + 1, q, none⟩ (.bool c)) :
    IdsRow w6 (some ⟨wc.heap.size, 0, none⟩) (n + 1) wc.heap.size 0 (rs2 rs n q r) ∧ BoolRow w6 (some ⟨wc.heap.size + 1, 0, none⟩) (n + 1) (wc.heap.size + 1) 0 (bs2 bs n q c) ∧ Below wc.heap.size wc w6 := by
  subst h6
  have hB6 : Below wc.heap.size wc ((wr.setCell ⟨wc.heap.size, q, none⟩ (.slice r.a r.len r.cap)).setCell ⟨wc.heap.size + 1, q, none⟩ (.bool c)) := (hB.setCell (Nat.le_refl _) _).setCell (Nat.le_succ _) _
  have y1 : FillC ((wr.setCell ⟨wc.heap.size, q, none⟩ (.slice r.a r.len r.cap)).setCell ⟨wc.heap.size + 1, q, none⟩ (.bool c)) wc.heap.size (n + 1) (f1 rs q r) (.slice none 0 0) (fun _ => true) :=
    (hx1.step (by omega) (by unfold f1; rw [insF_at]; rfl) (fun j hj => done_all hq hj)).other (by simp) _
  have y2 : FillC ((wr.setCell ⟨wc.heap.size, q, none⟩ (.slice r.a r.len r.cap)).setCell ⟨wc.heap.size + 1, q, none⟩ (.bool c)) (wc.heap.size + 1) (n + 1) (f2 bs q c) (.bool false) (fun _ => true) :=
    (hx2.other (by simp) _).step (by omega) (by unfold f2; rw [insF_at]) (fun j hj => done_all hq hj)
  refine ⟨⟨fun _ => rfl, fun k hk => ?_, by simp [rs2], by omega, fun x hx => ?_⟩, ⟨fun _ => rfl, fun k hk => ?_, by simp [bs2], by omega⟩, hB6⟩
  · rw [Nat.zero_add, y1.cells k hk]
    unfold rs2
    rw [getD_range _ _ hk]
    rfl
  · unfold rs2 at hx
    obtain ⟨j, _, rfl⟩ := List.mem_map.1 hx
    unfold insF
    split
    · exact (hrows j).below hB6
    · split
      · exact hr.below hB6
      · exact (hrows (j - 1)).below hB6
  · rw [Nat.zero_add, y2.cells k hk]
    unfold bs2
    rw [getD_range _ _ hk]
    rfl

set_option maxHeartbeats 4000000 in
set_option maxRecDepth 10000 in
theorem first_walk (F : Interp) (a0 a1 a2 : Option Addr) (n c0 b0 o0 n1 c1 b1 o1 n2 c2 b2 o2 : Nat) (rs : List Row) (bs : List Bool) (zs : List Int) (name : ByteArray) (p : Int) (c : Bool) (w : World) (hF : F.answers w.tape) (hs : name.size ≤ maxLen) (hcap : n ≤ c0)
    (hr : IdsRow w a0 n b0 o0 rs) (hb : BoolRow w a1 n1 b1 o1 bs) (hi : IntRow w a2 n2 b2 o2 zs) :
    Calls Tryf.prog 3 #[.slice a0 n c0, .slice a1 n1 c1, .slice a2 n2 c2, .string name, .int .i64 p, .bool c] w fun e w' => Yes w e w' := by
  unfold maxLen at hs
  have h1 := hb.short
  have h2 := hi.short
  go_enter Tryf.func3, Tryf.ntmps3
  go_wp2_with fail
  refine (bytes5_any a0 a1 a2 n c0 b0 o0 n1 c1 n2 c2 rs name p c w h1 h2 hs hr).mono ?_
  rintro e w ⟨⟨r, rfl⟩, rfl⟩
  cases r
  · go_wp2
    go_ret
    exact ⟨rfl, Below.refl _ _⟩
  go_wp2_with fail
  refine (tooBig_any a0 a1 a2 n c0 b0 o0 n1 c1 n2 c2 rs name w h1 h2 hs hr).mono ?_
  rintro e w ⟨⟨r, rfl, hN⟩, rfl⟩
  cases r
  rotate_left
  · go_wp2
    go_ret
    exact ⟨rfl, Below.refl _ _⟩
  obtain ⟨g0, g1, g2, _⟩ := hN rfl
  clear hN h1 h2 hs
  by_cases hp : 0 ≤ p ∧ p ≤ n
  rotate_left
  · by_cases hp0 : p < 0
    · clear hp
      go_wp2
      go_ret
      exact ⟨rfl, Below.refl _ _⟩
    · have hp1 : (n : Int) < p := by omega
      clear hp
      go_wp2
      go_ret
      exact ⟨rfl, Below.refl _ _⟩
  obtain ⟨hp0, hp1⟩ := hp
  obtain ⟨q, rfl⟩ : ∃ q : Nat, p = q := ⟨p.toNat, by omega⟩
  have hqn : q ≤ n := by omega
  clear hp0 hp1
  go_upto_if 44 with fail
  go_cut [1] (fun v1 wx => (∃ a b o c, v1 = .slice a n1 c ∧ BoolRow wx a n1 b o bs) ∧ Below w.heap.size w wx)
  case first =>
    have hmk := run_make_row' (P := Tryf.prog) 23 4 (.bool false) 1 Tryf.underlying23 Tryf.info4 rfl .i64 .i64 n1 (by omega) (by omega)
    obtain ⟨w2, hcp, hnew, hB2⟩ := copied_bools hb c1
    have HN := Hid.mk hnew
    have HB := Hid.mk hB2
    clear hnew hB2 hr hi
    go_wp2
    · go_meet
      exact ⟨⟨_, _, _, _, rfl, HN.out⟩, HB.out⟩
    · go_meet
      exact ⟨⟨_, _, _, _, rfl, hb⟩, Below.refl _ _⟩
  case rest =>
    obtain ⟨⟨a1', b1', o1', c1', rfl, hb'⟩, hB0⟩ := hcut
    have hr' := hr.below hB0
    have hi' := hi.below hB0
    clear hr hb hi
    go_upto_if 53 with fail
    go_cut [2] (fun v2 wx => (∃ a b o c, v2 = .slice a n2 c ∧ IntRow wx a n2 b o zs) ∧ Below wc.heap.size wc wx)
    case first =>
      have hmk := run_make_row' (P := Tryf.prog) 24 3 (.int .i64 0) 8 Tryf.underlying24 Tryf.info3 rfl .i64 .i64 n2 (by omega) (by omega)
      obtain ⟨w2, hcp, hnew, hB2⟩ := copied_ints hi' c2
      have HN := Hid.mk hnew
      have HB := Hid.mk hB2
      clear hnew hB2 hr' hb'
      go_wp2
      · go_meet
        exact ⟨⟨_, _, _, _, rfl, HN.out⟩, HB.out⟩
      · go_meet
        exact ⟨⟨_, _, _, _, rfl, hi'⟩, Below.refl _ _⟩
    case rest =>
      obtain ⟨⟨a2', b2', o2', c2', rfl, hi''⟩, hB1⟩ := hcut
      have hr'' := hr'.below hB1
      have hb'' := hb'.below hB1
      have hB := hB0.trans (hB1.mono hB0.size)
      have hF1 : F.answers wc.tape := by rw [hB.tape]; exact hF
      clear hr' hb' hi' hB0 hB1 hF
      have ec : ((n + 1 : Nat) : Int) = (n : Int) + 1 := by omega
      have hmk2 := run_make_row' (P := Tryf.prog) 22 24 (.slice none 0 0) 24 Tryf.underlying22 Tryf.info24 rfl .i64 .i64 (n + 1) (by omega) (by omega)
      have hmk := run_make_row' (P := Tryf.prog) 23 4 (.bool false) 1 Tryf.underlying23 Tryf.info4 rfl .i64 .i64 (n + 1) (by omega) (by omega)
      rw [ec] at hmk hmk2
      clear ec
      go_wp2_with fail
      clear hmk hmk2
      go_loopg [17, 18] n (fun y i _ wr => ∃ k : Nat, k ≤ n ∧ y = n - k ∧ i = .int .i64 k ∧ FillC wr wc.heap.size (n + 1) (f1 rs q (rid a2' n2 c2' b2' o2' zs)) (.slice none 0 0) (doneAt q k) ∧
        FillC wr (wc.heap.size + 1) (n + 1) (f2 bs q c) (.bool false) (doneAt q k) ∧ Below wc.heap.size wc wr)
      case atStart =>
        have hz : doneAt q 0 = fun _ => false := funext fun j => doneAt_zero q j
        refine ⟨0, Nat.zero_le _, rfl, rfl, ?_, ?_, ((Below.refl _ _).alloc (Nat.le_refl _) _).alloc (by simp) _⟩
        · rw [hz]
          exact (FillC.made wc (n + 1) _ _ _).kept (Below.heap_alloc _ _ _ (by simp))
        · rw [hz]
          simpa only [World.size_alloc] using FillC.made (wc.alloc (.cells (madeCells #[.slice none 0 0] (n + 1)) 24)) (n + 1) (f2 bs q c) (.bool false) 4
      case round =>
        obtain ⟨k, hk, rfl, rfl, hx1, hx2, hBx⟩ := hrel
        by_cases hlt : k < n
        · have hq := hr''.below hBx
          have hix := hq.at c0 k hlt
          have hcell := hq.cells k hlt
          have HX1 := Hid.mk hx1
          have HX2 := Hid.mk hx2
          have HBx := Hid.mk hBx
          have HB'' := Hid.mk hb''
          by_cases hkq : k < q
          · have e1 := hx1.cells k (by omega)
            have e2 := hx2.cells k (by omega)
            rw [done_k hkq] at e1 e2
            simp only [Bool.false_eq_true, if_false] at e1 e2
            have z1 := hx1.free k
            have z2 := hx2.free k
            have hv1 : f1 rs q (rid a2' n2 c2' b2' o2' zs) k = (rs.getD k Row.nil).val := by unfold f1; rw [insF_lt hkq]
            have HV1 := Hid.mk hv1
            clear hv1 hx1 hx2 hq hr'' hb'' hi''
            generalize rs.getD k Row.nil = r at hcell HV1
            unfold Row.val at hcell
            go_wp2_with fail
            refine (critAt_any a1' n1 c1' b1' o1' k bs _ (HB''.out.below (HBx.out.setCell (Nat.le_refl _) _))).mono ?_
            rintro e w5 ⟨rfl, rfl⟩
            have hv2 : f2 bs q c k = .bool (bs.getD k false) := by unfold f2; rw [insF_lt hkq]
            have HV2 := Hid.mk hv2
            clear hv2
            generalize bs.getD k false = v at HV2
            go_wp2
            go_roundg (n - (k + 1))
            case measure => omega
            case rel => exact ⟨k + 1, by omega, rfl, by first | rfl | go_num, (HX1.out.step (by omega) HV1.out (fun j _ => done_lt hkq j)).other (by simp) _, (HX2.out.other (by simp) _).step (by omega) HV2.out (fun j _ => done_lt hkq j), (HBx.out.setCell (Nat.le_refl _) _).setCell (Nat.le_succ _) _⟩
          · have hkq' : q ≤ k := by omega
            have e1 := hx1.cells (k + 1) (by omega)
            have e2 := hx2.cells (k + 1) (by omega)
            rw [done_k1 hkq'] at e1 e2
            simp only [Bool.false_eq_true, if_false] at e1 e2
            have z1 := hx1.free (k + 1)
            have z2 := hx2.free (k + 1)
            have hv1 : f1 rs q (rid a2' n2 c2' b2' o2' zs) (k + 1) = (rs.getD k Row.nil).val := by unfold f1; rw [insF_gt hkq']
            have HV1 := Hid.mk hv1
            clear hv1 hx1 hx2 hq hr'' hb'' hi''
            generalize rs.getD k Row.nil = r at hcell HV1
            unfold Row.val at hcell
            go_wp2_with fail
            refine (critAt_any a1' n1 c1' b1' o1' k bs _ (HB''.out.below (HBx.out.setCell (Nat.le_refl _) _))).mono ?_
            rintro e w5 ⟨rfl, rfl⟩
            have hv2 : f2 bs q c (k + 1) = .bool (bs.getD k false) := by unfold f2; rw [insF_gt hkq']
            have HV2 := Hid.mk hv2
            clear hv2
            generalize bs.getD k false = v at HV2
            go_wp2
            go_roundg (n - (k + 1))
            case measure => omega
            case rel => exact ⟨k + 1, by omega, rfl, by first | rfl | go_num, (HX1.out.step (by omega) HV1.out (fun j _ => done_ge hkq' j)).other (by simp) _, (HX2.out.other (by simp) _).step (by omega) HV2.out (fun j _ => done_ge hkq' j), (HBx.out.setCell (Nat.le_refl _) _).setCell (Nat.le_succ _) _⟩
        · have hk' : k = n := by omega
          rw [hk'] at hx1 hx2
          have e1 := hx1.cells q (by omega)
          have e2 := hx2.cells q (by omega)
          rw [done_q] at e1 e2
          simp only [Bool.false_eq_true, if_false] at e1 e2
          have z1 := hx1.free q
          have z2 := hx2.free q
          have HX1 := Hid.mk hx1
          have HX2 := Hid.mk hx2
          have HBx := Hid.mk hBx
          have HW := Hid.mk hB
          have HR := Hid.mk hr''
          have HBB := Hid.mk hb''
          have HI := Hid.mk hi''
          clear hk' hx1 hx2 hBx hB hr'' hb'' hi''
          go_wp2_with fail
          clear e1 e2 z1 z2
          generalize h6 : (wr.setCell ⟨wc.heap.size, q, none⟩ (.slice a2' n2 c2')).setCell ⟨wc.heap.size + 1, q, none⟩ (.bool c) = w6
          obtain ⟨hids, hbools, hB6⟩ := behind (r := rid a2' n2 c2' b2' o2' zs) hqn g0 HX1.out HX2.out HBx.out HR.out.row HI.out w6 h6.symm
          clear h6 HX1 HX2 HBx
          have hlen := HR.out.long
          have hr6 := HR.out.below hB6
          have hb6 := HBB.out.below hB6
          have hi6 := HI.out.below hB6
          have hF6 : F.answers w6.tape := by rw [hB6.tape]; exact hF1
          have HW6 := Hid.mk (HW.out.trans (hB6.mono HW.out.size))
          clear HW HR HBB HI hB6 hF1
          refine (hasID_any a0 a2' q c0 b0 o0 n2 c2' b2' o2' (rs.take q) zs w6 (hr6.take hqn) hi6).mono ?_
          rintro e w7 ⟨rfl, hB7⟩
          have hids7 := hids.below hB7
          have hbools7 := hbools.below hB7
          have hr7 := hr6.below hB7
          have hb7 := hb6.below hB7
          have hi7 := hi6.below hB7
          have hF7 : F.answers w7.tape := by rw [hB7.tape]; exact hF6
          have HW7 := Hid.mk (HW6.out.trans (hB7.mono HW6.out.size))
          clear hids hbools hr6 hb6 hi6 hF6 HW6 hB7
          go_wp2_with fail
          refine (zz_any F _ _ a2' (n + 1) (n + 1) _ _ (n + 1) (n + 1) _ _ n2 c2' b2' o2' _ _ zs name w7 hF7 (by omega) hids7 hbools7 hi7).mono ?_
          rintro e w8 ⟨⟨v2, rfl, hv2⟩, hB8⟩
          have hr8 := hr7.below hB8
          have hb8 := hb7.below hB8
          have hi8 := hi7.below hB8
          have hF8 : F.answers w8.tape := by rw [hB8.tape]; exact hF7
          have HW8 := Hid.mk (HW7.out.trans (hB8.mono HW7.out.size))
          clear hids7 hbools7 hr7 hb7 hi7 hF7 HW7 hB8
          cases hh : hasB (rs.take q) zs with
          | false =>
            have hp : passes (rs2 rs n q (rid a2' n2 c2' b2' o2' zs)) (bs2 bs n q c) zs (n + 1) = c := ins_no (r := rid a2' n2 c2' b2' o2' zs) hlen hqn hh
            rw [hp] at hv2
            clear hp hh hr8 hb8 hi8 hF8 hlen
            cases c with
            | true =>
              obtain rfl := hv2
              go_wp2
              go_ret
              exact ⟨rfl, HW8.out⟩
            | false =>
              obtain ⟨ax, rfl⟩ := hv2
              go_wp2
              go_ret
              exact ⟨rfl, HW8.out⟩
          | true =>
            have hp : passes (rs2 rs n q (rid a2' n2 c2' b2' o2' zs)) (bs2 bs n q c) zs (n + 1) = passes rs bs zs n := ins_yes (r := rid a2' n2 c2' b2' o2' zs) hlen hqn hh
            rw [hp] at hv2
            have HV2 := Hid.mk hv2
            clear hp hh hlen hv2
            go_wp2_with fail
            refine (zz_any F a0 a1' a2' n c0 b0 o0 n1 c1' b1' o1' n2 c2' b2' o2' rs bs zs name w8 hF8 (by omega) hr8 hb8 hi8).mono ?_
            rintro e w9 ⟨⟨v1, rfl, hv1⟩, hB9⟩
            have HW9 := Hid.mk (HW8.out.trans (hB9.mono HW8.out.size))
            have hv2 := HV2.out
            clear hr8 hb8 hi8 hF8 HW8 hB9 HV2
            generalize passes rs bs zs n = pp at hv1 hv2
            cases pp with
            | true =>
              obtain rfl := hv2
              obtain rfl := hv1
              go_wp2
              go_region
              all_goals go_wp2
              go_ret
              exact ⟨rfl, HW9.out.drew⟩
            | false =>
              obtain ⟨ax, rfl⟩ := hv2
              obtain ⟨ay, rfl⟩ := hv1
              go_wp2
              go_region
              all_goals go_wp2
              go_ret
              exact ⟨rfl, HW9.out.drew⟩
end Go.Proofs.Qxb6615958aFmt
