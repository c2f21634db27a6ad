import Derived.Test.Qxb6615958aBytes
import Derived.Stop.IfaceNil
namespace Go.Proofs.Qxb6615958a
open Go.RowKit

theorem as45 (v : Option Addr) (w : World) : (Instr.typeAssert (.iface 33 (.pointer v)) 44 45 true).run Try.prog w = .ok (.tuple #[.pointer none, .bool false]) w := by kernel_rfl
theorem as33 (v : Option Addr) (w : World) : (Instr.typeAssert (.iface 33 (.pointer v)) 44 33 true).run Try.prog w = .ok (.tuple #[.pointer v, .bool true]) w := by kernel_rfl
theorem as45e (a : Option Addr) (n c : Nat) (w : World) : (Instr.typeAssert (.iface 43 (.slice a n c)) 44 45 true).run Try.prog w = .ok (.tuple #[.pointer none, .bool false]) w := by kernel_rfl
theorem as33e (a : Option Addr) (n c : Nat) (w : World) : (Instr.typeAssert (.iface 43 (.slice a n c)) 44 33 true).run Try.prog w = .ok (.tuple #[.pointer none, .bool false]) w := by kernel_rfl
attribute [local go_sem] as45 as33 as45e as33e

set_option maxHeartbeats 1000000 in
theorem specOf_rsa (rb zb : Nat) (a : Option Addr) (m cc bb oo N : Nat) (w : World) (hr : w.cell? ⟨rb, 0, none⟩ = some (.pointer (some ⟨zb, 0, none⟩))) (hz : w.cell? ⟨zb, 1, none⟩ = some (.slice a m cc)) (hN : NatAt w a m bb oo N) :
    Calls Try.prog 10 #[.iface 33 (.pointer (some ⟨rb, 0, none⟩))] w fun e w' => e = .returned (.tuple #[.agg #[.nilIface, .int .i64 (blen N)], .bool true]) ∧ Below w.heap.size w w' := by
  have hrb := lt_of_cell hr
  have hzb := lt_of_cell hz
  have hB : Below w.heap.size w (w.alloc (.cells #[.nilIface, .int .i64 0] 30)) := (Below.refl _ _).alloc (Nat.le_refl _) _
  have HN := Hid.mk (hN.below hB)
  have hz1 := (hB.cell (p := ⟨zb, 1, none⟩) hzb).trans hz
  have HZ := Hid.mk hz1
  clear hN hz1 hB
  go_enter Try.func10, Try.ntmps10
  go_wp2_with fail
  refine (bitLen_any zb 0 a m cc bb oo N _ HN.out HZ.out).mono ?_
  rintro e w1 ⟨rfl, rfl⟩
  clear HN HZ
  go_wp2
  exact bodyPost_ret (v := .tuple #[.agg #[.nilIface, .int .i64 (blen N)], .bool true]) (by simp [results, Try.results10, go_sem]) rfl ⟨rfl, (Below.refl _ _).alloc (Nat.le_refl _) _⟩

set_option maxHeartbeats 1000000 in
theorem specOf_ed (a : Option Addr) (n c : Nat) (w : World) :
    Calls Try.prog 10 #[.iface 43 (.slice a n c)] w fun e w' => e = .returned (.tuple #[.agg #[.nilIface, .int .i64 0], .bool false]) ∧ Below w.heap.size w w' := by
  go_enter Try.func10, Try.ntmps10
  go_wp2
  exact bodyPost_ret (v := .tuple #[.agg #[.nilIface, .int .i64 0], .bool false]) (by simp [results, Try.results10, go_sem]) rfl ⟨rfl, (Below.refl _ _).alloc (Nat.le_refl _) _⟩

set_option maxHeartbeats 1000000 in
theorem zzEd (a : Option Addr) (n c : Nat) (w : World) :
    Calls Try.prog 9 #[.slice a n c] w fun e w' => e = .returned (.tuple #[.int .i64 0, .bool false, .bool false]) ∧ Below w.heap.size w w' := by
  go_enter Try.func9, Try.ntmps9
  go_wp2_with fail
  refine (specOf_ed a n c w).mono ?_
  rintro e w1 ⟨rfl, hB⟩
  have HB := Hid.mk hB
  clear hB
  go_wp2_with fail
  go_region
  go_wp2
  go_ret3
  exact ⟨rfl, (HB.out.alloc HB.out.size _).drew⟩

set_option maxHeartbeats 1000000 in
theorem zzRSA (a : Option Addr) (n c b off : Nat) (bs : List Nat) (w : World) (h : ByteRow w a n b off bs) (hn : n ≤ 2000000) (hc : n ≤ c) :
    Calls Try.prog 6 #[.slice a n c] w fun e w' => e = .returned (.tuple #[.int .i64 (blen (num bs)), .bool false, .bool true]) ∧ Below w.heap.size w w' := by
  have hB : Below w.heap.size w (w.alloc (.cells #[.bool false, .slice none 0 0] 38)) := (Below.refl _ _).alloc (Nat.le_refl _) _
  have hq := h.below hB
  have HB := Hid.mk hB
  have HQ := Hid.mk hq
  clear h hB hq
  go_enter Try.func6, Try.ntmps6
  go_wp2_with fail
  refine (intSetBytes_any w.heap.size a n c b off bs _ HQ.out hn hc (by go_simp) (by go_simp) (fun o => by go_simp)).mono ?_
  rintro e w1 ⟨rfl, ⟨a', m, cc, bb, oo, hz, hN⟩, hs, hB1⟩
  have hz0 := lt_of_cell hz
  have hB2 : Below w1.heap.size w1 (w1.alloc (.cells #[.pointer (some ⟨w.heap.size, 0, none⟩), .int .i64 65537] 41)) := (Below.refl _ _).alloc (Nat.le_refl _) _
  have HZ := Hid.mk ((hB2.cell (p := ⟨w.heap.size, 1, none⟩) hz0).trans hz)
  have HN := Hid.mk (hN.below hB2)
  have hw1 : w.heap.size ≤ w1.heap.size := Nat.le_trans HB.out.size hs
  have hBB : Below w.heap.size w (w1.alloc (.cells #[.pointer (some ⟨w.heap.size, 0, none⟩), .int .i64 65537] 41)) := (HB.out.trans hB1).alloc hw1 _
  have HBB := Hid.mk hBB
  clear hz hN hB1 hB2 hBB HB HQ hs
  go_wp2_with fail
  refine (specOf_rsa w1.heap.size w.heap.size a' m cc bb oo (num bs) _ (by go_simp) HZ.out HN.out).mono ?_
  rintro e w2 ⟨rfl, hB3⟩
  have HB4 := Hid.mk (HBB.out.trans (hB3.mono HBB.out.size))
  clear hB3 HZ HN HBB hz0 hw1
  go_wp2_with fail
  go_region
  go_wp2
  go_ret3
  exact ⟨rfl, (HB4.out.alloc HB4.out.size _).drew⟩
end Go.Proofs.Qxb6615958a
