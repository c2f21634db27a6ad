import Derived.Test.Qxb6615958aFmtCrit
import Derived.Deep.OwnRows
namespace Go.Proofs.Qxb6615958aFmt
open Go.RowKit
open Go.Extern.Stop Go.Stop Go.Extern

/-- The extensions' cells while they are filled. -/
structure ExtC (w : World) (g n : Nat) (rs : List Row) (bs : List Bool) : Prop where
  ids : ∀ k, k < n → w.cell? ⟨g, k * 3, none⟩ = some (.slice (rs.getD k Row.nil).a (rs.getD k Row.nil).len (rs.getD k Row.nil).cap)
  crits : ∀ k, k < n → w.cell? ⟨g, k * 3 + 1, none⟩ = some (.bool (bs.getD k false))
  vals : ∀ k, k < n → w.cell? ⟨g, k * 3 + 2, none⟩ = some (.slice none 0 0)
  free : ∀ o, w.frozen? ⟨g, o, none⟩ = false

theorem made_at (n i : Nat) (h : i < n) (z : Array Value) : (madeCells z n)[i]? = some (z[i % z.size]!) := by
  simp [madeCells, h]

theorem ExtC.made (w : World) (n : Nat) : ExtC (w.alloc (.cells (madeCells #[.slice none 0 0, .bool false, .slice none 0 0] (n * 3)) 37)) w.heap.size n [] [] := by
  refine ⟨fun k hk => ?_, fun k hk => ?_, fun k hk => ?_, fun o => ?_⟩
  · rw [World.cell?_alloc_at _ _ _ _ rfl, made_at _ _ (by omega)]
    have e : k * 3 % 3 = 0 := by omega
    simp [e, Row.nil]
  · rw [World.cell?_alloc_at _ _ _ _ rfl, made_at _ _ (by omega)]
    have e : (k * 3 + 1) % 3 = 1 := by omega
    simp [e]
  · rw [World.cell?_alloc_at _ _ _ _ rfl, made_at _ _ (by omega)]
    have e : (k * 3 + 2) % 3 = 2 := by omega
    simp [e]
  · go_simp

theorem cell_same {w : World} {a : Addr} {u v : Value} (h : w.cell? a = some u) : (w.setCell a v).cell? a = some v := by simp [World.cell?_setCell_same, h]
theorem cell_other {w : World} {g i j : Nat} {v : Value} (h : i ≠ j) : (w.setCell ⟨g, i, none⟩ v).cell? ⟨g, j, none⟩ = w.cell? ⟨g, j, none⟩ := by
  apply World.cell?_setCell_other
  intro e
  apply h
  simp at e

theorem getD_take {α : Type} (l : List α) (d : α) (k j : Nat) : (l.take k).getD j d = if j < k then l.getD j d else d := by
  simp only [List.getD_eq_getElem?_getD, List.getElem?_take]
  split
  · rfl
  · rfl

theorem ExtC.step_id {w : World} {g n : Nat} {rs : List Row} {bs : List Bool} {k : Nat} (h : ExtC w g n (rs.take k) bs) (hk : k < n) (r : Row) (hr : rs.getD k Row.nil = r) :
    ExtC (w.setCell ⟨g, k * 3, none⟩ (.slice r.a r.len r.cap)) g n (rs.take (k + 1)) bs := by
  refine ⟨fun j hj => ?_, fun j hj => ?_, fun j hj => ?_, fun o => by rw [World.frozen?_setCell]; exact h.free o⟩
  · by_cases e : j = k
    · subst e
      rw [cell_same (h.ids j hj), getD_take, if_pos (by omega), hr]
    · rw [cell_other (by omega), h.ids j hj, getD_take, getD_take]
      by_cases h1 : j < k
      · rw [if_pos h1, if_pos (by omega)]
      · rw [if_neg h1, if_neg (by omega)]
  · rw [cell_other (by omega)]; exact h.crits j hj
  · rw [cell_other (by omega)]; exact h.vals j hj

theorem ExtC.step_crit {w : World} {g n : Nat} {rs : List Row} {bs : List Bool} {k : Nat} (h : ExtC w g n rs (bs.take k)) (hk : k < n) (c : Bool) (hc : bs.getD k false = c) :
    ExtC (w.setCell ⟨g, k * 3 + 1, none⟩ (.bool c)) g n rs (bs.take (k + 1)) := by
  refine ⟨fun j hj => ?_, fun j hj => ?_, fun j hj => ?_, fun o => by rw [World.frozen?_setCell]; exact h.free o⟩
  · rw [cell_other (by omega)]; exact h.ids j hj
  · by_cases e : j = k
    · subst e
      rw [cell_same (h.crits j hj), getD_take, if_pos (by omega), hc]
    · rw [cell_other (by omega), h.crits j hj, getD_take, getD_take]
      by_cases h1 : j < k
      · rw [if_pos h1, if_pos (by omega)]
      · rw [if_neg h1, if_neg (by omega)]
  · rw [cell_other (by omega)]; exact h.vals j hj

theorem ExtC.skip_crit {w : World} {g n : Nat} {rs : List Row} {bs : List Bool} {k : Nat} (h : ExtC w g n rs (bs.take k)) (hk : bs.length ≤ k) : ExtC w g n rs (bs.take (k + 1)) := by
  have e : bs.take (k + 1) = bs.take k := by rw [List.take_of_length_le (by omega), List.take_of_length_le hk]
  rw [e]
  exact h

theorem passes_take (rs : List Row) (bs : List Bool) (zs : List Int) (n : Nat) : passes rs (bs.take n) zs n = passes rs bs zs n := by
  unfold passes
  split
  · rfl
  · rename_i h
    rcases firstAt_bounds rs zs n 0 with h1 | h1
    · rw [getD_take, if_pos (by omega)]
    · omega

theorem Tryf.info37 : (Tryf.prog.info? 37).map (fun i => (i.zero, i.size, i.bytes)) = some (some (.agg #[.slice none 0 0, .bool false, .slice none 0 0]), 3, 56) := by kernel_rfl

theorem run_make37 (n : Nat) (h : n ≤ 131073) (w : World) :
    (Instr.makeSlice 33 (.int .i64 (n : Int)) (.int .i64 (n : Int))).run Tryf.prog w = .ok (.slice (some ⟨w.heap.size, 0, none⟩) n n) (w.alloc (.cells (madeCells #[.slice none 0 0, .bool false, .slice none 0 0] (n * 3)) 37)) := by
  obtain ⟨i, hi, hzz⟩ := Option.map_eq_some_iff.1 Tryf.info37
  simp only [Prod.mk.injEq] at hzz
  obtain ⟨hz, hs, hb⟩ := hzz
  have := run_make (P := Tryf.prog) w 33 37 i _ Tryf.underlying33 hi hz .i64 .i64 n n (by omega) (by omega) (by rw [hb]; omega) (by omega)
  rw [hs] at this
  simpa [Value.cells] using this

/-- The certificate's cells: all zero but the extensions. -/
def certCells (a : Option Addr) (n c : Nat) : Array Value := #[.slice none 0 0, .slice none 0 0, .slice none 0 0, .slice none 0 0, .slice none 0 0, .slice none 0 0, .slice none 0 0, .int .i64 0, .int .i64 0, .nilIface, .int .i64 0, .pointer none, .slice none 0 0, .slice none 0 0, .slice none 0 0, .slice none 0 0, .slice none 0 0, .slice none 0 0, .slice none 0 0, .string ⟨#[]⟩, .string ⟨#[]⟩, .slice none 0 0, .slice none 0 0, .slice none 0 0, .slice none 0 0, .slice none 0 0, .slice none 0 0, .slice none 0 0, .slice none 0 0, .slice none 0 0, .string ⟨#[]⟩, .string ⟨#[]⟩, .slice none 0 0, .slice none 0 0, .int .u64 0, .int .i64 0, .pointer none, .int .u64 0, .int .i64 0, .pointer none, .int .i64 0, .slice a n c, .slice none 0 0, .slice none 0 0, .slice none 0 0, .slice none 0 0, .bool false, .bool false, .int .i64 0, .bool false, .slice none 0 0, .slice none 0 0, .slice none 0 0, .slice none 0 0, .slice none 0 0, .slice none 0 0, .slice none 0 0, .slice none 0 0, .bool false, .slice none 0 0, .slice none 0 0, .slice none 0 0, .slice none 0 0, .slice none 0 0, .slice none 0 0, .slice none 0 0, .slice none 0 0, .slice none 0 0, .slice none 0 0, .slice none 0 0, .int .i64 0, .bool false, .int .i64 0, .bool false, .int .i64 0, .bool false, .slice none 0 0]
theorem build60 (a : Option Addr) (n c : Nat) (w : World) : (Instr.build 60 #[(17, .slice a n c)]).run Tryf.prog w = .ok (.agg (certCells a n c)) w := by kernel_rfl
theorem box60 (a : Option Addr) (n c : Nat) (w : World) : (Instr.box 60 (.agg (certCells a n c))).run Tryf.prog w = .ok (.pointer (some ⟨w.heap.size, 0, none⟩)) (w.alloc (.cells (certCells a n c) 60)) := by kernel_rfl
theorem cert_cell (a : Option Addr) (n c : Nat) (w : World) : (w.alloc (.cells (certCells a n c) 60)).cell? ⟨w.heap.size, 41, none⟩ = some (.slice a n c) := by
  rw [World.cell?_alloc_at _ _ _ _ rfl]
  rfl
theorem wpList_build60 {w : World} {ops : Array Oper} {rest : List Oper} {o : Oper} {a : Act} {Q : Exit → Act → World → Prop} (hg : o.guard = none) (x : Operand) (hop : o.op = Op.build 60 #[(17, x)]) (ad : Option Addr) (n c : Nat) (hx : a.eval x = .slice ad n c)
    (hK : wpList Tryf.prog ops Q rest (a.put o.dst (.agg (certCells ad n c))) w) : wpList Tryf.prog ops Q (o :: rest) a w := by
  refine wpList_plain hg fun K' hK' => ?_
  unfold Oper.wp
  simp [execOp, hop, hx, build60, Result.andThen]
  exact hK' _ _ hK
theorem wpList_box60 {w : World} {ops : Array Oper} {rest : List Oper} {o : Oper} {a : Act} {Q : Exit → Act → World → Prop} (hg : o.guard = none) (x : Operand) (hop : o.op = Op.box 60 x) (ad : Option Addr) (n c : Nat) (hx : a.eval x = .agg (certCells ad n c))
    (hK : wpList Tryf.prog ops Q rest (a.put o.dst (.pointer (some ⟨w.heap.size, 0, none⟩))) (w.alloc (.cells (certCells ad n c) 60))) : wpList Tryf.prog ops Q (o :: rest) a w := by
  refine wpList_plain hg fun K' hK' => ?_
  unfold Oper.wp
  simp [execOp, hop, hx, box60, Result.andThen]
  exact hK' _ _ hK

set_option maxHeartbeats 2000000 in
theorem zz_any (F : Interp) (a0 a1 a2 : Option Addr) (n c0 b0 o0 n1 c1 b1 o1 n2 c2 b2 o2 : Nat) (rs : List Row) (bs : List Bool) (zs : List Int) (name : ByteArray) (w : World) (hF : F.answers w.tape) (hn : n ≤ 131073)
    (hr : IdsRow w a0 n b0 o0 rs) (hb : BoolRow w a1 n1 b1 o1 bs) (hi : IntRow w a2 n2 b2 o2 zs) :
    Calls Tryf.prog 9 #[.slice a0 n c0, .slice a1 n1 c1, .slice a2 n2 c2, .string name] w fun e w' => (∃ v, e = .returned v ∧ ErrOut (passes rs bs zs n) v) ∧ Below w.heap.size w w' := by
  have hmk := run_make37 n hn
  have hs1 := hb.short
  have hl1 := hb.long
  go_enter Tryf.func9, Tryf.ntmps9
  go_wp2_with fail
  clear hmk
  go_loopg [10, 16] n (fun q _ i wr => ∃ k : Nat, k ≤ n ∧ q = n - k ∧ i = .int .i64 k ∧ ExtC wr w.heap.size n (rs.take k) (bs.take k) ∧ Below w.heap.size w wr)
  case atStart => exact ⟨0, Nat.zero_le _, rfl, rfl, by simpa using ExtC.made w n, (Below.refl _ _).alloc (Nat.le_refl _) _⟩
  case round =>
    obtain ⟨k, hk, rfl, rfl, hx, hB⟩ := hrel
    by_cases hlt : k < n
    · have hq := hr.below hB
      have hix := hq.at c0 k hlt
      have hcell := hq.cells k hlt
      unfold Row.val at hcell
      have e0 := hx.ids k hlt
      have e1 := hx.crits k hlt
      have f0 := hx.free (k * 3)
      have f1 := hx.free (k * 3 + 1)
      have HX := Hid.mk hx
      have HB := Hid.mk hB
      have HR := Hid.mk hr
      have HBR := Hid.mk hb
      generalize hrr : rs.getD k Row.nil = r at hcell
      have HRR := Hid.mk hrr
      clear hrr hx hB hq hr
      by_cases hlc : k < n1
      · have hbq := hb.below HB.out
        have hix1 := hbq.at c1 k hlc
        have hcell1 := hbq.cells k hlc
        have hb1lt := lt_of_cell (hb.cells k hlc)
        generalize hcr : bs.getD k false = cr at hcell1
        have HCR := Hid.mk hcr
        clear hcr hbq hb
        go_wp2
        go_roundg (n - (k + 1))
        case measure => omega
        case rel => exact ⟨k + 1, by omega, rfl, by first | rfl | go_num, (HX.out.step_id hlt r HRR.out).step_crit hlt cr HCR.out, (HB.out.setCell (Nat.le_refl _) _).setCell (Nat.le_refl _) _⟩
      · clear hb
        go_wp2
        go_roundg (n - (k + 1))
        case measure => omega
        case rel => exact ⟨k + 1, by omega, rfl, by first | rfl | go_num, (HX.out.step_id hlt r HRR.out).skip_crit (by omega), HB.out.setCell (Nat.le_refl _) _⟩
    · have hk' : k = n := by omega
      have hX : Exts wr w.heap.size n rs (bs.take n) := by
        have hl := hr.long
        have hq := hr.below hB
        rw [hk', List.take_of_length_le (l := rs) (by omega)] at hx
        exact ⟨hx.ids, hx.crits, hx.vals, hq.row⟩
      have hF1 : F.answers wr.tape := by rw [hB.tape]; exact hF
      have hsz := hB.size
      have HI := Hid.mk (hi.below hB)
      have HX := Hid.mk hX
      have HB := Hid.mk hB
      clear hk' hx hX hr hb hi hB hF hl1
      go_wp2_with (first | (refine wpList_build60 rfl (.tmp 40) rfl _ _ _ rfl ?_) | (refine wpList_box60 rfl (.tmp 41) rfl _ _ _ rfl ?_))
      have hA : Below wr.heap.size wr (wr.alloc (.cells (certCells (some ⟨w.heap.size, 0, none⟩) n n) 60)) := (Below.refl _ _).alloc (Nat.le_refl _) _
      refine (check_any F wr.heap.size w.heap.size n rs (bs.take n) a2 n2 c2 b2 o2 zs name (wr.alloc (.cells (certCells (some ⟨w.heap.size, 0, none⟩) n n) 60)) hF1 hn (HX.out.below hA) (HI.out.below hA) (cert_cell _ _ _ _)).mono ?_
      rintro e w1 ⟨⟨v, rfl, hv⟩, hB1⟩
      rw [passes_take] at hv
      have HV := Hid.mk hv
      have HW := Hid.mk (HB.out.trans ((hA.mono hsz).trans (hB1.mono (by simp; omega))))
      clear hv hA hB1 hF1 HX HI HB
      go_wp2
      go_ret
      exact ⟨⟨_, rfl, HV.out⟩, HW.out⟩
end Go.Proofs.Qxb6615958aFmt
