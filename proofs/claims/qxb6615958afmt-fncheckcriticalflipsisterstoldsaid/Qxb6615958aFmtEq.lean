import Derived.Test.Qxb6615958aFmtRows
import Derived.WalkKit
import Derived.WalkSpells
import Derived.WalkLawsBesides
import Derived.RegionTactic
import Derived.Deep.DeepCutAuto
import Derived.Deep.CutBlock
import Derived.Deep.QuietTactic
import Derived.BigQuiet
namespace Go.Proofs.Qxb6615958aFmt
open Go.RowKit

/-- The call returned this bool. -/
def SomeB (e : Ending) : Prop := ∃ r : Bool, e = .returned (.bool r)
theorem Hid.mk {p : Prop} (h : p) : Hid p := h

theorem lt_of_cell {w : World} {b o : Nat} {v : Value} (h : w.cell? ⟨b, o, none⟩ = some v) : b < w.heap.size := by
  rcases Nat.lt_or_ge b w.heap.size with h' | h'
  · exact h'
  · simp [World.cell?, Array.getElem?_eq_none h'] at h

/-- What the walks are told of a slice of ints: where it has an element it begins at ⟨b, off⟩, and its cells hold 'zs'. -/
structure IntRow (w : World) (a : Option Addr) (len b off : Nat) (zs : List Int) : Prop where
  here : 0 < len → a = some ⟨b, off, none⟩
  cells : ∀ k, k < len → w.cell? ⟨b, off + k, none⟩ = some (.int .i64 (zs.getD k 0))
  long : zs.length = len
  short : len ≤ 9223372036854775807

theorem IntRow.at24 {w : World} {a : Option Addr} {len b off : Nat} {zs : List Int} (h : IntRow w a len b off zs) (cap k : Nat) (hk : k < len) (w' : World) :
    (Instr.indexAt 24 (.slice a len cap) (.int .i64 k)).run Tryf.prog w' = .ok (.pointer (some ⟨b, off + k, none⟩)) w' := by
  rw [h.here (by omega)]
  go_simp
theorem IntRow.at34 {w : World} {a : Option Addr} {len b off : Nat} {zs : List Int} (h : IntRow w a len b off zs) (cap k : Nat) (hk : k < len) (w' : World) :
    (Instr.indexAt 34 (.slice a len cap) (.int .i64 k)).run Tryf.prog w' = .ok (.pointer (some ⟨b, off + k, none⟩)) w' := by
  rw [h.here (by omega)]
  go_simp

theorem IntRow.below {w w' : World} {a : Option Addr} {len b off : Nat} {zs : List Int} (h : IntRow w a len b off zs) (hb : Below w.heap.size w w') : IntRow w' a len b off zs :=
  ⟨h.here, fun k hk => (hb.cell (p := ⟨b, off + k, none⟩) (lt_of_cell (h.cells k hk))).trans (h.cells k hk), h.long, h.short⟩

theorem take_eq_step {xs ys : List Int} {k : Nat} (hx : k < xs.length) (hy : k < ys.length) (h : xs.take k = ys.take k) (he : xs.getD k 0 = ys.getD k 0) : xs.take (k + 1) = ys.take (k + 1) := by
  rw [List.take_succ_eq_append_getElem hx, List.take_succ_eq_append_getElem hy, h]
  simp only [List.getD_eq_getElem?_getD, List.getElem?_eq_getElem hx, List.getElem?_eq_getElem hy, Option.getD_some] at he
  rw [he]

theorem ne_of_getD {xs ys : List Int} {k : Nat} (he : xs.getD k 0 ≠ ys.getD k 0) : decide (xs = ys) = false := by
  rw [decide_eq_false_iff_not]
  rintro rfl
  exact he rfl

theorem ret_bool {a b : Bool} (h : a = b) : Ending.returned (.bool a) = .returned (.bool b) := by rw [h]

set_option maxHeartbeats 1000000 in
theorem equal_any (a1 a2 : Option Addr) (n1 c1 b1 o1 n2 c2 b2 o2 : Nat) (z1 z2 : List Int) (w : World) (h1 : IntRow w a1 n1 b1 o1 z1) (h2 : IntRow w a2 n2 b2 o2 z2) :
    Calls Tryf.prog 20 #[.slice a1 n1 c1, .slice a2 n2 c2] w fun e w' => e = .returned (.bool (decide (z1 = z2))) ∧ Below w.heap.size w w' := by
  have hs1 := h1.short
  have hs2 := h2.short
  have hl1 := h1.long
  have hl2 := h2.long
  by_cases hn : n1 = n2
  · subst hn
    clear hs2
    go_enter Tryf.func20, Tryf.ntmps20
    go_wp2
    go_loopg [5, 13] n1 (fun g _ i wr => ∃ k : Nat, k ≤ n1 ∧ g = n1 - k ∧ i = .int .i64 k ∧ z1.take k = z2.take k ∧ Below w.heap.size w wr)
    case atStart => exact ⟨0, Nat.zero_le _, rfl, rfl, rfl, Below.refl _ _⟩
    case round =>
      obtain ⟨k, hk, rfl, rfl, hz, hB⟩ := hrel
      by_cases hlt : k < n1
      · have q1 := h1.below hB
        have q2 := h2.below hB
        have x1 := q1.at34 c1 k hlt
        have x2 := q2.at34 c2 k hlt
        have y1 := q1.cells k hlt
        have y2 := q2.cells k hlt
        have HS := Hid.mk (fun he => take_eq_step (k := k) (by omega : k < z1.length) (by omega : k < z2.length) hz he)
        have HN := Hid.mk (ne_of_getD (xs := z1) (ys := z2) (k := k))
        generalize hv1 : z1.getD k 0 = v1 at y1 HS HN
        generalize hv2 : z2.getD k 0 = v2 at y2 HS HN
        clear hv1 hv2 hl1 hl2 hz q1 q2
        have HB := Hid.mk hB
        clear hB h1 h2
        by_cases hv : v1 = v2
        · subst hv
          go_wp2
          go_region
          all_goals go_wp2
          go_roundg (n1 - (k + 1))
          case measure => omega
          case rel => exact ⟨k + 1, by omega, rfl, by first | rfl | go_num, HS.out trivial, HB.out.drew⟩
        · have hv' : (v1 == v2) = false := by simpa using hv
          go_wp2
          go_region
          all_goals go_wp2
          go_ret
          exact ⟨ret_bool (HN.out hv).symm, HB.out.drew⟩
      · have hk' : k = n1 := by omega
        have e1 : decide (z1 = z2) = true := by
          rw [decide_eq_true_iff, ← List.take_of_length_le (l := z1) (i := k) (by omega), ← List.take_of_length_le (l := z2) (i := k) (by omega)]
          exact hz
        clear hk'
        have E1 := Hid.mk e1
        clear e1 hz
        go_wp2
        go_ret
        exact ⟨ret_bool E1.out.symm, hB⟩
  · have hn' : ((n1 : Int) == (n2 : Int)) = false := by simpa using (by omega : (n1 : Int) ≠ n2)
    have e1 : decide (z1 = z2) = false := by
      rw [decide_eq_false_iff_not]
      rintro rfl
      omega
    have E1 := Hid.mk e1
    clear e1 hl1 hl2
    go_enter Tryf.func20, Tryf.ntmps20
    go_wp2
    go_ret
    exact ⟨ret_bool E1.out.symm, Below.refl _ _⟩

set_option maxHeartbeats 1000000 in
theorem intsEqual_any (a1 a2 : Option Addr) (n1 c1 b1 o1 n2 c2 b2 o2 : Nat) (z1 z2 : List Int) (w : World) (h1 : IntRow w a1 n1 b1 o1 z1) (h2 : IntRow w a2 n2 b2 o2 z2) :
    Calls Tryf.prog 11 #[.slice a1 n1 c1, .slice a2 n2 c2] w fun e w' => e = .returned (.bool (decide (z1 = z2))) ∧ Below w.heap.size w w' := by
  have hs1 := h1.short
  have hs2 := h2.short
  have hl1 := h1.long
  have hl2 := h2.long
  by_cases hn : n1 = n2
  · subst hn
    clear hs2
    go_enter Tryf.func11, Tryf.ntmps11
    go_wp2
    go_loopg [5] n1 (fun g i wr => ∃ k : Nat, k ≤ n1 ∧ g = n1 - k ∧ i = .int .i64 k ∧ z1.take k = z2.take k ∧ Below w.heap.size w wr)
    case atStart => exact ⟨0, Nat.zero_le _, rfl, rfl, rfl, Below.refl _ _⟩
    case round =>
      obtain ⟨k, hk, rfl, rfl, hz, hB⟩ := hrel
      by_cases hlt : k < n1
      · have q1 := h1.below hB
        have q2 := h2.below hB
        have x1 := q1.at24 c1 k hlt
        have x2 := q2.at24 c2 k hlt
        have y1 := q1.cells k hlt
        have y2 := q2.cells k hlt
        have HS := Hid.mk (fun he => take_eq_step (k := k) (by omega : k < z1.length) (by omega : k < z2.length) hz he)
        have HN := Hid.mk (ne_of_getD (xs := z1) (ys := z2) (k := k))
        generalize hv1 : z1.getD k 0 = v1 at y1 HS HN
        generalize hv2 : z2.getD k 0 = v2 at y2 HS HN
        clear hv1 hv2 hl1 hl2 hz q1 q2
        have HB := Hid.mk hB
        clear hB h1 h2
        by_cases hv : v1 = v2
        · subst hv
          go_wp2
          go_region
          all_goals go_wp2
          go_roundg (n1 - (k + 1))
          case measure => omega
          case rel => exact ⟨k + 1, by omega, rfl, by first | rfl | go_num, HS.out trivial, HB.out.drew⟩
        · have hv' : (v1 == v2) = false := by simpa using hv
          go_wp2
          go_region
          all_goals go_wp2
          go_ret
          exact ⟨ret_bool (HN.out hv).symm, HB.out.drew⟩
      · have hk' : k = n1 := by omega
        have e1 : decide (z1 = z2) = true := by
          rw [decide_eq_true_iff, ← List.take_of_length_le (l := z1) (i := k) (by omega), ← List.take_of_length_le (l := z2) (i := k) (by omega)]
          exact hz
        clear hk'
        have E1 := Hid.mk e1
        clear e1 hz
        go_wp2
        go_ret
        exact ⟨ret_bool E1.out.symm, hB⟩
  · have hn' : ((n1 : Int) == (n2 : Int)) = false := by simpa using (by omega : (n1 : Int) ≠ n2)
    have e1 : decide (z1 = z2) = false := by
      rw [decide_eq_false_iff_not]
      rintro rfl
      omega
    have E1 := Hid.mk e1
    clear e1 hl1 hl2
    go_enter Tryf.func11, Tryf.ntmps11
    go_wp2
    go_ret
    exact ⟨ret_bool E1.out.symm, Below.refl _ _⟩

end Go.Proofs.Qxb6615958aFmt
