import Derived.Test.Qxb6615790aFmtGuard
import Derived.Maps.OwnSet
import Derived.RegionTactic
namespace Go.Proofs.Qxb6615790aFmt
open Go.RowKit Go.Maps

/-- How an element of the map reads: a string; the number 0; nothing. -/
def anyElem : Value → Option (DataW Unit × List MemPlace)
  | .iface t (.string s) => if t = 9 then some (.lit (.string s.data.toList), []) else none
  | .iface t (.float _ _) => if t = 36 then some (.lit (.bool false), []) else none
  | .nilIface => some (.nil, [])
  | _ => none

def litOf (s : ByteArray) : Lit := .string s.data.toList
def Dn (s2 : List ByteArray) : Nat → DataW Unit
  | 0 => .map []
  | k + 1 => (Dn s2 k).put (litOf (s2.getD k ByteArray.empty)) (.lit (.bool false))
def Dk (D : DataW Unit) (s0 s1 : List ByteArray) : Nat → DataW Unit
  | 0 => D
  | k + 1 => (Dk D s0 s1 k).put (litOf (s0.getD k ByteArray.empty)) (.lit (.string (s1.getD k ByteArray.empty).data.toList))

theorem law9 : Keyed Tryf.prog 9 := string_keyed Tryf.underlying9

theorem lt_of_cell {w : World} {b o : Nat} {v : Value} (h : w.cell? ⟨b, o, none⟩ = some v) : b < w.heap.size := by
  rcases Nat.lt_or_ge b w.heap.size with h' | h'
  · exact h'
  · simp [World.cell?, Array.getElem?_eq_none h'] at h

/-- A slice's cells are there as long as the old blocks are. -/
theorem StrRow.below {w w' : World} {a : Option Addr} {len b off : Nat} {ss : List ByteArray} (h : StrRow w a len b off ss) (hb : Below w.heap.size w w') : StrRow w' a len b off ss :=
  ⟨h.here, fun k hk => (hb.cell (p := ⟨b, off + k, none⟩) (lt_of_cell (h.cells k hk))).trans (h.cells k hk), h.long, h.short, h.sizes⟩

theorem anyElem_zero : anyElem (.iface 36 (.float .f64 0)) = some (.lit (.bool false), []) := by simp [anyElem]
theorem anyElem_str (s : ByteArray) : anyElem (.iface 9 (.string s)) = some (.lit (.string s.data.toList), []) := by simp [anyElem]

set_option maxHeartbeats 1000000 in
theorem object_any (a0 a1 a2 : Option Addr) (n0 c0 b0 o0 c1 b1 o1 n2 c2 b2 o2 : Nat) (s0 s1 s2 : List ByteArray) (path : ByteArray) (w : World)
    (hr0 : StrRow w a0 n0 b0 o0 s0) (hr1 : StrRow w a1 n0 b1 o1 s1) (hr2 : StrRow w a2 n2 b2 o2 s2) :
    Calls Tryf.prog 7 #[.slice a0 n0 c0, .slice a1 n0 c1, .slice a2 n2 c2, .string path] w fun e w' =>
      e = .returned (.agg #[.map (some (w.heap.size + 1)), .string path]) ∧ w'.ownsMap Tryf.prog 9 anyElem (w.heap.size + 1) (n2 + n0) (Dk (Dn s2 n2) s0 s1 n0) ∧ Below w.heap.size w w' := by
  have hm0 := hr0.short
  have hm2 := hr2.short
  have hmm := @run_makeMap Tryf.prog
  go_enter Tryf.func7, Tryf.ntmps7
  go_wp2_with fail
  clear hmm
  go_loopg [11, 16] n2 (fun g _ i wr => ∃ k : Nat, k ≤ n2 ∧ g = n2 - k ∧ i = .int .i64 k ∧ wr.ownsMap Tryf.prog 9 anyElem (w.heap.size + 1) k (Dn s2 k) ∧ Below (w.heap.size + 1) (w.alloc (.cells #[.map none, .string ⟨#[]⟩] 28)) wr)
  case atStart => exact ⟨0, Nat.zero_le _, rfl, rfl, by simpa [Dn] using World.ownsMap_made (w.alloc (.cells #[.map none, .string ⟨#[]⟩] 28)) Tryf.prog 9 anyElem, (Below.refl _ _).alloc (by simp) _⟩
  case round =>
    obtain ⟨k, hk, rfl, rfl, hown, hnx⟩ := hrel
    have hnw : Below w.heap.size w wr := ((Below.refl _ _).alloc (Nat.le_refl _) _).trans (hnx.mono (Nat.le_succ _))
    by_cases hlt : k < n2
    · have hr := hr2.below hnw
      have hix := hr.at c2 k hlt
      have hcell := hr.cells k hlt
      have hsz := hr.size k hlt
      have hD : Dn s2 (k + 1) = (Dn s2 k).put (litOf (s2.getD k ByteArray.empty)) (.lit (.bool false)) := rfl
      generalize s2.getD k ByteArray.empty = s at hcell hsz hD
      obtain ⟨w1, hrun, hown1, hgrow1⟩ := hown.update law9 Tryf.underlying26 (by unfold maxLen; omega) (Go.WideMaps.keyOf_string_mk Tryf.underlying9 hsz) anyElem_zero
      clear hr
      have R1 : w1.ownsMap Tryf.prog 9 anyElem (w.heap.size + 1) (k + 1) (Dn s2 (k + 1)) := by rw [hD]; exact hown1
      have R2 := hnx.grown hgrow1 (by have := hnx.size; simp at this; omega) (fun j hj => by cases hj; exact Nat.le_refl _)
      clear hown1 hgrow1 hD
      have HR1 : Hid _ := R1
      have HR2 : Hid _ := R2
      clear R1 R2 hown hnx hnw hr0 hr1 hr2
      go_wp2
      go_roundg (n2 - (k + 1))
      case measure => omega
      case rel => exact ⟨k + 1, by omega, rfl, by first | rfl | go_num, HR1, HR2⟩
    · obtain rfl : k = n2 := by omega
      go_wp2
      go_loopg [12, 26] n0 (fun g _ i wx => ∃ j : Nat, j ≤ n0 ∧ g = n0 - j ∧ i = .int .i64 j ∧ wx.ownsMap Tryf.prog 9 anyElem (w.heap.size + 1) (k + j) (Dk (Dn s2 k) s0 s1 j) ∧ Below (w.heap.size + 1) (w.alloc (.cells #[.map none, .string ⟨#[]⟩] 28)) wx)
      case atStart => exact ⟨0, Nat.zero_le _, rfl, rfl, hown, hnx⟩
      case round =>
        clear hown hnx hnw
        obtain ⟨j, hj, rfl, rfl, hown, hnx⟩ := hrel
        have hnw : Below w.heap.size w wr := ((Below.refl _ _).alloc (Nat.le_refl _) _).trans (hnx.mono (Nat.le_succ _))
        by_cases hlt : j < n0
        · have hr := hr0.below hnw
          have hix := hr.at c0 j hlt
          have hcell := hr.cells j hlt
          have hsz := hr.size j hlt
          have hq := hr1.below hnw
          have hix1 := hq.at c1 j hlt
          have hcell1 := hq.cells j hlt
          have hD : Dk (Dn s2 k) s0 s1 (j + 1) = (Dk (Dn s2 k) s0 s1 j).put (litOf (s0.getD j ByteArray.empty)) (.lit (.string (s1.getD j ByteArray.empty).data.toList)) := rfl
          generalize s0.getD j ByteArray.empty = s at hcell hsz hD
          generalize s1.getD j ByteArray.empty = v at hcell1 hD
          obtain ⟨w1, hrun, hown1, hgrow1⟩ := (hown.drew).update law9 Tryf.underlying26 (by unfold maxLen; omega) (Go.WideMaps.keyOf_string_mk Tryf.underlying9 hsz) (anyElem_str v)
          have R1 : w1.ownsMap Tryf.prog 9 anyElem (w.heap.size + 1) (k + (j + 1)) (Dk (Dn s2 k) s0 s1 (j + 1)) := by rw [hD]; exact hown1
          have R2 := hnx.drew.grown hgrow1 (by have := hnx.size; simp at this ⊢; omega) (fun j hj => by cases hj; exact Nat.le_refl _)
          clear hown1 hgrow1 hD
          have HR1 : Hid _ := R1
          have HR2 : Hid _ := R2
          clear R1 R2 hown hnx hnw hr0 hr1 hr2
          go_wp2
          go_region
          all_goals go_wp2
          go_roundg (n0 - (j + 1))
          case measure => omega
          case rel => exact ⟨j + 1, by omega, rfl, by first | rfl | go_num, HR1, HR2⟩
        · obtain rfl : j = n0 := by omega
          have e0 : wr.cell? ⟨w.heap.size, 0, none⟩ = some (.map none) := by rw [hnx.cell (p := ⟨w.heap.size, 0, none⟩) (by simp)]; simp
          have e1 : wr.cell? ⟨w.heap.size, 1, none⟩ = some (.string ⟨#[]⟩) := by rw [hnx.cell (p := ⟨w.heap.size, 1, none⟩) (by simp)]; simp
          have f0 : wr.frozen? ⟨w.heap.size, 0, none⟩ = false := by rw [hnx.frozen (p := ⟨w.heap.size, 0, none⟩) (by simp)]; simp
          have f1 : wr.frozen? ⟨w.heap.size, 1, none⟩ = false := by rw [hnx.frozen (p := ⟨w.heap.size, 1, none⟩) (by simp)]; simp
          go_wp2
          refine bodyPost_ret (v := .agg #[.map (some (w.heap.size + 1)), .string path]) (by simp [results, Tryf.results7, go_sem, e0, e1]) rfl ⟨rfl, ?_, ?_⟩
          · exact (hown.setCell (by simp) _).setCell (by simp) _
          · exact (hnw.setCell (Nat.le_refl _) _).setCell (Nat.le_refl _) _
end Go.Proofs.Qxb6615790aFmt
