import Derived.Test.Qxb6615958aFmtIds
namespace Go.Proofs.Qxb6615958aFmt
open Go.RowKit

set_option maxHeartbeats 400000 in
theorem equal17_any (a1 a2 : Option Addr) (n1 c1 b1 o1 n2 c2 b2 o2 : Nat) (z1 z2 : List Int) (w : World) (h1 : IntRow w a1 n1 b1 o1 z1) (h2 : IntRow w a2 n2 b2 o2 z2) :
    Calls Tryf.prog 17 #[.slice a1 n1 c1, .slice a2 n2 c2] w fun e w' => e = .returned (.bool (decide (z1 = z2))) ∧ Below w.heap.size w w' := by
  go_enter Tryf.func17, Tryf.ntmps17
  go_wp2_with fail
  refine (equal_any a1 a2 n1 c1 b1 o1 n2 c2 b2 o2 z1 z2 w h1 h2).mono ?_
  rintro e w1 ⟨rfl, hB⟩
  go_wp2
  go_ret
  exact ⟨rfl, hB⟩

set_option maxHeartbeats 400000 in
/-- The closure: is this extension's id the one that was captured? -/
theorem match_any (r : Row) (cr : Bool) (bp : Nat) (a2 : Option Addr) (n2 c2 b2 o2 : Nat) (zs : List Int) (w : World) (hr : r.ok w) (hi : IntRow w a2 n2 b2 o2 zs) (hc : w.cell? ⟨bp, 0, none⟩ = some (.slice a2 n2 c2)) :
    Calls Tryf.prog 16 #[.agg #[.slice r.a r.len r.cap, .bool cr, .slice none 0 0], .pointer (some ⟨bp, 0, none⟩)] w fun e w' => e = .returned (.bool (decide (r.zs = zs))) ∧ Below w.heap.size w w' := by
  have hlt := lt_of_cell hc
  have hB : ∀ o, Below w.heap.size w (w.alloc o) := fun o => (Below.refl _ _).alloc (Nat.le_refl _) _
  go_enter Tryf.func16, Tryf.ntmps16
  go_wp2_with fail
  refine (equal17_any r.a a2 r.len r.cap r.b r.off n2 c2 b2 o2 r.zs zs _ (IntRow.below hr (hB _)) (hi.below (hB _))).mono ?_
  rintro e w1 ⟨rfl, hB1⟩
  have HB := Hid.mk ((hB _).trans (hB1.mono (by simp)))
  clear hB hB1
  go_wp2
  go_ret
  exact ⟨rfl, HB.out⟩

/-- The extensions, as ZZcheckCritical lays them: three cells each. -/
structure Exts (w : World) (g n : Nat) (rs : List Row) (bs : List Bool) : Prop where
  ids : ∀ k, k < n → w.cell? ⟨g, k * 3, none⟩ = some (.slice (rs.getD k Row.nil).a (rs.getD k Row.nil).len (rs.getD k Row.nil).cap)
  crits : ∀ k, k < n → w.cell? ⟨g, k * 3 + 1, none⟩ = some (.bool (bs.getD k false))
  vals : ∀ k, k < n → w.cell? ⟨g, k * 3 + 2, none⟩ = some (.slice none 0 0)
  rows : ∀ k, (rs.getD k Row.nil).ok w

theorem Exts.below {w w' : World} {g n : Nat} {rs : List Row} {bs : List Bool} (h : Exts w g n rs bs) (hb : Below w.heap.size w w') : Exts w' g n rs bs :=
  ⟨fun k hk => (hb.cell (p := ⟨g, k * 3, none⟩) (lt_of_cell (h.ids k hk))).trans (h.ids k hk), fun k hk => (hb.cell (p := ⟨g, k * 3 + 1, none⟩) (lt_of_cell (h.crits k hk))).trans (h.crits k hk),
    fun k hk => (hb.cell (p := ⟨g, k * 3 + 2, none⟩) (lt_of_cell (h.vals k hk))).trans (h.vals k hk), fun k => (h.rows k).below hb⟩

theorem ret_int {k : IntKind} {a b : Int} (h : a = b) : Ending.returned (.int k a) = .returned (.int k b) := by rw [h]

/-- Where the id stands first among the first n; -1 where it does not. -/
def firstAt (rs : List Row) (zs : List Int) : Nat → Nat → Int
  | 0, _ => -1
  | m + 1, k => if decide ((rs.getD k Row.nil).zs = zs) then (k : Int) else firstAt rs zs m (k + 1)

theorem firstAt_bounds (rs : List Row) (zs : List Int) : ∀ m k, -1 ≤ firstAt rs zs m k ∧ firstAt rs zs m k < (k : Int) + m ∨ firstAt rs zs m k = -1 := by
  intro m
  induction m with
  | zero => intro k; right; rfl
  | succ m ih =>
    intro k
    unfold firstAt
    split
    · left; omega
    · rcases ih (k + 1) with h | h
      · left; omega
      · right; exact h

set_option maxHeartbeats 1000000 in
theorem indexFunc_any (g n bp : Nat) (rs : List Row) (bs : List Bool) (a2 : Option Addr) (n2 c2 b2 o2 : Nat) (zs : List Int) (w : World) (hn : n ≤ 131073) (hx : Exts w g n rs bs) (hi : IntRow w a2 n2 b2 o2 zs) (hc : w.cell? ⟨bp, 0, none⟩ = some (.slice a2 n2 c2)) :
    Calls Tryf.prog 15 #[.slice (some ⟨g, 0, none⟩) n n, .func (.func 16) #[] #[.pointer (some ⟨bp, 0, none⟩)]] w fun e w' => e = .returned (.int .i64 (firstAt rs zs n 0)) ∧ Below w.heap.size w w' := by
  have hbp := lt_of_cell hc
  go_enter Tryf.func15, Tryf.ntmps15
  go_wp2
  go_loopg [5, 8] n (fun q _ i wr => ∃ k : Nat, k ≤ n ∧ q = n - k ∧ i = .int .i64 k ∧ firstAt rs zs n 0 = firstAt rs zs (n - k) k ∧ Below w.heap.size w wr)
  case atStart => exact ⟨0, Nat.zero_le _, rfl, rfl, rfl, Below.refl _ _⟩
  case round =>
    obtain ⟨k, hk, rfl, rfl, hf, hB⟩ := hrel
    by_cases hlt : k < n
    · have hq := hx.below hB
      have e0 := hq.ids k hlt
      have e1 := hq.crits k hlt
      have e2 := hq.vals k hlt
      have hok := hq.rows k
      have hiq := hi.below hB
      have hcq := (hB.cell (p := ⟨bp, 0, none⟩) hbp).trans hc
      have HF := Hid.mk hf
      have hu : firstAt rs zs (n - k) k = if decide ((rs.getD k Row.nil).zs = zs) then (k : Int) else firstAt rs zs (n - (k + 1)) (k + 1) := by
        rw [show n - k = (n - (k + 1)) + 1 from by omega]; rfl
      have HU := Hid.mk hu
      have HB := Hid.mk hB
      have HX := Hid.mk hx
      clear hf hu hB hx hi hc hq
      generalize rs.getD k Row.nil = r at e0 hok HU
      generalize bs.getD k false = cr at e1
      go_wp2_with fail
      refine (match_any r cr bp a2 n2 c2 b2 o2 zs wr hok hiq hcq).mono ?_
      rintro e w1 ⟨rfl, hB1⟩
      have HB1 := Hid.mk (HB.out.trans (hB1.mono HB.out.size))
      clear hB1 hok hiq hcq e0 e1 e2
      cases hd : decide (r.zs = zs) with
      | true =>
        have HK := Hid.mk (show firstAt rs zs n 0 = (k : Int) by rw [HF.out, HU.out, hd]; rfl)
        clear hd HU HF
        go_wp2
        go_ret
        exact ⟨ret_int HK.out.symm, HB1.out⟩
      | false =>
        have HK := Hid.mk (show firstAt rs zs n 0 = firstAt rs zs (n - (k + 1)) (k + 1) by rw [HF.out, HU.out, hd]; rfl)
        clear hd HU HF
        go_wp2
        go_roundg (n - (k + 1))
        case measure => omega
        case rel => exact ⟨k + 1, by omega, rfl, by first | rfl | go_num, HK.out, HB1.out⟩
    · have HK := Hid.mk (show firstAt rs zs n 0 = -1 by rw [hf, show n - k = 0 from by omega]; rfl)
      have HB := Hid.mk hB
      clear hf hB hx hi hc
      go_wp2
      go_ret
      exact ⟨ret_int HK.out.symm, HB.out⟩

set_option maxHeartbeats 1000000 in
theorem extension_no (cb g n : Nat) (rs : List Row) (bs : List Bool) (a2 : Option Addr) (n2 c2 b2 o2 : Nat) (zs : List Int) (w : World) (hn : n ≤ 131073) (hx : Exts w g n rs bs) (hi : IntRow w a2 n2 b2 o2 zs) (hc : w.cell? ⟨cb, 41, none⟩ = some (.slice (some ⟨g, 0, none⟩) n n))
    (hf : firstAt rs zs n 0 = -1) :
    Calls Tryf.prog 13 #[.pointer (some ⟨cb, 0, none⟩), .slice a2 n2 c2] w fun e w' => e = .returned (.tuple #[.agg #[.slice none 0 0, .bool false, .slice none 0 0], .bool false]) ∧ Below w.heap.size w w' := by
  have hcb := lt_of_cell hc
  have hcb1 : cb < w.heap.size + 1 := by omega
  have HF := Hid.mk hf
  have HX := Hid.mk hx
  have HI := Hid.mk hi
  clear hf hx hi
  go_enter Tryf.func13, Tryf.ntmps13
  go_wp2_with fail
  have hB : Below w.heap.size w ((w.alloc (.cells #[.slice a2 n2 c2] 34)).alloc (.cells #[.slice none 0 0, .bool false, .slice none 0 0] 37)) := ((Below.refl _ _).alloc (Nat.le_refl _) _).alloc (by simp) _
  have hid : ((w.alloc (.cells #[.slice a2 n2 c2] 34)).alloc (.cells #[.slice none 0 0, .bool false, .slice none 0 0] 37)).cell? ⟨w.heap.size, 0, none⟩ = some (.slice a2 n2 c2) := by go_simp
  refine (indexFunc_any g n w.heap.size rs bs a2 n2 c2 b2 o2 zs _ hn (HX.out.below hB) (HI.out.below hB) hid).mono ?_
  rintro e w1 ⟨rfl, hB1⟩
  rw [HF.out]
  have k0 : w1.cell? ⟨w.heap.size + 1, 0, none⟩ = some (.slice none 0 0) := by rw [hB1.cell (p := ⟨w.heap.size + 1, 0, none⟩) (by simp)]; go_simp
  have k1 : w1.cell? ⟨w.heap.size + 1, 1, none⟩ = some (.bool false) := by rw [hB1.cell (p := ⟨w.heap.size + 1, 1, none⟩) (by simp)]; go_simp
  have k2 : w1.cell? ⟨w.heap.size + 1, 2, none⟩ = some (.slice none 0 0) := by rw [hB1.cell (p := ⟨w.heap.size + 1, 2, none⟩) (by simp)]; go_simp
  have f0 : ∀ o, w1.frozen? ⟨w.heap.size + 1, o, none⟩ = false := fun o => by rw [hB1.frozen (p := ⟨w.heap.size + 1, o, none⟩) (by simp)]; go_simp
  have HB := Hid.mk (hB.trans (hB1.mono (by simp; omega)))
  clear hB hB1 hid
  go_wp2
  refine bodyPost_ret (v := .tuple #[.agg #[.slice none 0 0, .bool false, .slice none 0 0], .bool false]) (by simp [results, Tryf.results13, go_sem, k0, k1, k2]) rfl ⟨rfl, ?_⟩
  exact ((HB.out.setCell (Nat.le_succ _) _).setCell (Nat.le_succ _) _).setCell (Nat.le_succ _) _

set_option maxHeartbeats 1000000 in
theorem extension_yes (cb g n k : Nat) (rs : List Row) (bs : List Bool) (a2 : Option Addr) (n2 c2 b2 o2 : Nat) (zs : List Int) (w : World) (hn : n ≤ 131073) (hx : Exts w g n rs bs) (hi : IntRow w a2 n2 b2 o2 zs) (hc : w.cell? ⟨cb, 41, none⟩ = some (.slice (some ⟨g, 0, none⟩) n n))
    (hk : k < n) (hf : firstAt rs zs n 0 = k) :
    Calls Tryf.prog 13 #[.pointer (some ⟨cb, 0, none⟩), .slice a2 n2 c2] w fun e w' => (∃ ax nx cx, e = .returned (.tuple #[.agg #[.slice ax nx cx, .bool (bs.getD k false), .slice none 0 0], .bool true])) ∧ Below w.heap.size w w' := by
  have hcb := lt_of_cell hc
  have hcb1 : cb < w.heap.size + 1 := by omega
  have HF := Hid.mk hf
  have HX := Hid.mk hx
  have HI := Hid.mk hi
  clear hf hx hi
  go_enter Tryf.func13, Tryf.ntmps13
  go_wp2_with fail
  have hB : Below w.heap.size w ((w.alloc (.cells #[.slice a2 n2 c2] 34)).alloc (.cells #[.slice none 0 0, .bool false, .slice none 0 0] 37)) := ((Below.refl _ _).alloc (Nat.le_refl _) _).alloc (by simp) _
  have hid : ((w.alloc (.cells #[.slice a2 n2 c2] 34)).alloc (.cells #[.slice none 0 0, .bool false, .slice none 0 0] 37)).cell? ⟨w.heap.size, 0, none⟩ = some (.slice a2 n2 c2) := by go_simp
  refine (indexFunc_any g n w.heap.size rs bs a2 n2 c2 b2 o2 zs _ hn (HX.out.below hB) (HI.out.below hB) hid).mono ?_
  rintro e w1 ⟨rfl, hB1⟩
  rw [HF.out]
  have k0 : w1.cell? ⟨w.heap.size + 1, 0, none⟩ = some (.slice none 0 0) := by rw [hB1.cell (p := ⟨w.heap.size + 1, 0, none⟩) (by simp)]; go_simp
  have k1 : w1.cell? ⟨w.heap.size + 1, 1, none⟩ = some (.bool false) := by rw [hB1.cell (p := ⟨w.heap.size + 1, 1, none⟩) (by simp)]; go_simp
  have k2 : w1.cell? ⟨w.heap.size + 1, 2, none⟩ = some (.slice none 0 0) := by rw [hB1.cell (p := ⟨w.heap.size + 1, 2, none⟩) (by simp)]; go_simp
  have f0 : ∀ o, w1.frozen? ⟨w.heap.size + 1, o, none⟩ = false := fun o => by rw [hB1.frozen (p := ⟨w.heap.size + 1, o, none⟩) (by simp)]; go_simp
  have hW := hB.trans (hB1.mono (by simp; omega))
  have hcc := (hW.cell (p := ⟨cb, 41, none⟩) hcb).trans hc
  have hx1 := HX.out.below hW
  have e0 := hx1.ids k hk
  have e1 := hx1.crits k hk
  have e2 := hx1.vals k hk
  have HB := Hid.mk hW
  clear hB hB1 hid hW hx1 hc
  generalize rs.getD k Row.nil = r at e0
  generalize hcr : bs.getD k false = cr at e1
  have HC := Hid.mk hcr
  clear hcr
  go_wp2
  refine bodyPost_ret (v := .tuple #[.agg #[.slice r.a r.len r.cap, .bool cr, .slice none 0 0], .bool true]) (by simp [results, Tryf.results13, go_sem, k0, k1, k2]) rfl ⟨⟨_, _, _, by rw [HC.out]⟩, ?_⟩
  exact ((HB.out.setCell (Nat.le_succ _) _).setCell (Nat.le_succ _) _).setCell (Nat.le_succ _) _
end Go.Proofs.Qxb6615958aFmt
