import Derived.Test.Qxb6615958aFmtExt
import Derived.Stop.CallBack
import Derived.Stop.IfaceNil
import GoSem.ClaimData
namespace Go.Proofs.Qxb6615958aFmt
open Go.RowKit
open Go.Extern.Stop Go.Stop Go.Extern

theorem Tryf.call18 (args : Array Value) (w : World) : (callFunc 18 args).run Tryf.prog w = ((FmtStop.errorf #[9, 67] #[30] args).run Tryf.prog w).andThen fun v w' => .ok (.value v) w' :=
  run_callFunc_extern Tryf.func18 (by kernel_rfl) (by kernel_rfl) (by kernel_rfl) (by kernel_rfl) args w
theorem Tryf.guard (name : String) (w : World) : (FmtStop.guard name).run Tryf.prog w = .ok () w := by kernel_rfl
-- the two formats: one operand under the verb s
theorem Tryf.fmt0 : FmtStop.printed? ⟨#[37, 115, 32, 105, 115, 32, 109, 105, 115, 115, 105, 110, 103]⟩ 1 = some [(0, 115, false)] := by kernel_rfl
theorem Tryf.fmt0r (w : World) : (FmtDoors.printed ⟨#[37, 115, 32, 105, 115, 32, 109, 105, 115, 115, 105, 110, 103]⟩ 1).run Tryf.prog w = .ok [(0, 115, false)] w := by kernel_rfl
theorem Tryf.fmt1 : FmtStop.printed? ⟨#[37, 115, 32, 105, 115, 32, 110, 111, 116, 32, 109, 97, 114, 107, 101, 100, 32, 99, 114, 105, 116, 105, 99, 97, 108]⟩ 1 = some [(0, 115, false)] := by kernel_rfl
theorem Tryf.fmt1r (w : World) : (FmtDoors.printed ⟨#[37, 115, 32, 105, 115, 32, 110, 111, 116, 32, 109, 97, 114, 107, 101, 100, 32, 99, 114, 105, 116, 105, 99, 97, 108]⟩ 1).run Tryf.prog w = .ok [(0, 115, false)] w := by kernel_rfl
def Tryf.shape9 : List UInt8 := [12, 6, 0, 0, 0, 0, 0, 0, 0, 115, 116, 114, 105, 110, 103]
theorem Tryf.op9_115 (name : String) (x : ByteArray) (w : World) : (FmtStop.operand name false 115 false (.iface 9 (.string x))).run Tryf.prog w = .ok (Tryf.shape9, FmtStop.pack x.data.toList) w := by kernel_rfl
theorem Tryf.op9_115w (name : String) (x : ByteArray) (w : World) : (FmtStop.operand name true 115 false (.iface 9 (.string x))).run Tryf.prog w = .ok (Tryf.shape9, FmtStop.pack x.data.toList) w := by kernel_rfl
theorem Tryf.ptr71 (w : World) : (FmtStop.ptrTo "errors.errorString").run Tryf.prog w = .ok 71 w := by kernel_rfl
theorem Tryf.elem71 (w : World) : (elemOf 71).run Tryf.prog w = .ok 73 w := by kernel_rfl
attribute [local go_sem] Tryf.call18 Tryf.guard Tryf.fmt0 Tryf.fmt0r Tryf.fmt1 Tryf.fmt1r Tryf.op9_115 Tryf.op9_115w Tryf.ptr71 Tryf.elem71

def ErrOut : Bool → Value → Prop
  | true, v => v = .nilIface
  | false, v => ∃ a, v = .iface 71 (.pointer (some a))

/-- Does the check pass? The first extension that bears the id is there and is marked. -/
def passes (rs : List Row) (bs : List Bool) (zs : List Int) (n : Nat) : Bool := if firstAt rs zs n 0 < 0 then false else bs.getD (firstAt rs zs n 0).toNat false

set_option maxHeartbeats 1000000 in
theorem check_no (F : Interp) (cb g n : Nat) (rs : List Row) (bs : List Bool) (a2 : Option Addr) (n2 c2 b2 o2 : Nat) (zs : List Int) (name : ByteArray) (w : World) (hF : F.answers w.tape) (hn : n ≤ 131073) (hx : Exts w g n rs bs) (hi : IntRow w a2 n2 b2 o2 zs) (hc : w.cell? ⟨cb, 41, none⟩ = some (.slice (some ⟨g, 0, none⟩) n n))
    (hf : firstAt rs zs n 0 = -1) :
    Calls Tryf.prog 12 #[.pointer (some ⟨cb, 0, none⟩), .slice a2 n2 c2, .string name] w fun e w' => (∃ a, e = .returned (.iface 71 (.pointer (some a)))) ∧ Below w.heap.size w w' := by
  go_enter Tryf.func12, Tryf.ntmps12
  go_wp2_with fail
  refine (extension_no cb g n rs bs a2 n2 c2 b2 o2 zs w hn hx hi hc hf).mono ?_
  rintro e w1 ⟨rfl, hB⟩
  have HB := Hid.mk hB
  have hF' : F.answers w1.tape := by rw [hB.tape]; exact hF
  unfold Interp.answers at hF'
  clear hB hx hi hc hf hF
  go_wp2
  go_ret
  exact ⟨⟨_, rfl⟩, (((HB.out.alloc HB.out.size _).alloc (by have := HB.out.size; simp; omega) _).alloc (by have := HB.out.size; simp; omega) _).drew⟩

set_option maxHeartbeats 1000000 in
theorem check_unmarked (F : Interp) (cb g n k : Nat) (rs : List Row) (bs : List Bool) (a2 : Option Addr) (n2 c2 b2 o2 : Nat) (zs : List Int) (name : ByteArray) (w : World) (hF : F.answers w.tape) (hn : n ≤ 131073) (hx : Exts w g n rs bs) (hi : IntRow w a2 n2 b2 o2 zs) (hc : w.cell? ⟨cb, 41, none⟩ = some (.slice (some ⟨g, 0, none⟩) n n))
    (hk : k < n) (hf : firstAt rs zs n 0 = k) (hb : bs.getD k false = false) :
    Calls Tryf.prog 12 #[.pointer (some ⟨cb, 0, none⟩), .slice a2 n2 c2, .string name] w fun e w' => (∃ a, e = .returned (.iface 71 (.pointer (some a)))) ∧ Below w.heap.size w w' := by
  go_enter Tryf.func12, Tryf.ntmps12
  have HBB := Hid.mk hb
  clear hb
  go_wp2_with fail
  refine (extension_yes cb g n k rs bs a2 n2 c2 b2 o2 zs w hn hx hi hc hk hf).mono ?_
  rintro e w1 ⟨⟨ax, nx, cx, rfl⟩, hB⟩
  rw [HBB.out]
  have HB := Hid.mk hB
  have hF' : F.answers w1.tape := by rw [hB.tape]; exact hF
  unfold Interp.answers at hF'
  clear hB hx hi hc hf hF
  go_wp2
  go_ret
  exact ⟨⟨_, rfl⟩, (((HB.out.alloc HB.out.size _).alloc (by have := HB.out.size; simp; omega) _).alloc (by have := HB.out.size; simp; omega) _).drew⟩

set_option maxHeartbeats 1000000 in
theorem check_marked (cb g n k : Nat) (rs : List Row) (bs : List Bool) (a2 : Option Addr) (n2 c2 b2 o2 : Nat) (zs : List Int) (name : ByteArray) (w : World) (hn : n ≤ 131073) (hx : Exts w g n rs bs) (hi : IntRow w a2 n2 b2 o2 zs) (hc : w.cell? ⟨cb, 41, none⟩ = some (.slice (some ⟨g, 0, none⟩) n n))
    (hk : k < n) (hf : firstAt rs zs n 0 = k) (hb : bs.getD k false = true) :
    Calls Tryf.prog 12 #[.pointer (some ⟨cb, 0, none⟩), .slice a2 n2 c2, .string name] w fun e w' => e = .returned .nilIface ∧ Below w.heap.size w w' := by
  go_enter Tryf.func12, Tryf.ntmps12
  have HBB := Hid.mk hb
  clear hb
  go_wp2_with fail
  refine (extension_yes cb g n k rs bs a2 n2 c2 b2 o2 zs w hn hx hi hc hk hf).mono ?_
  rintro e w1 ⟨⟨ax, nx, cx, rfl⟩, hB⟩
  rw [HBB.out]
  have HB := Hid.mk hB
  clear hB hx hi hc hf
  go_wp2
  go_ret
  exact ⟨rfl, HB.out.alloc HB.out.size _⟩

theorem check_any (F : Interp) (cb g n : Nat) (rs : List Row) (bs : List Bool) (a2 : Option Addr) (n2 c2 b2 o2 : Nat) (zs : List Int) (name : ByteArray) (w : World) (hF : F.answers w.tape) (hn : n ≤ 131073) (hx : Exts w g n rs bs) (hi : IntRow w a2 n2 b2 o2 zs) (hc : w.cell? ⟨cb, 41, none⟩ = some (.slice (some ⟨g, 0, none⟩) n n)) :
    Calls Tryf.prog 12 #[.pointer (some ⟨cb, 0, none⟩), .slice a2 n2 c2, .string name] w fun e w' => (∃ v, e = .returned v ∧ ErrOut (passes rs bs zs n) v) ∧ Below w.heap.size w w' := by
  by_cases hf : firstAt rs zs n 0 = -1
  · have e1 : passes rs bs zs n = false := by simp [passes, hf]
    rw [e1]
    exact (check_no F cb g n rs bs a2 n2 c2 b2 o2 zs name w hF hn hx hi hc hf).mono fun e w' ⟨⟨a, he⟩, hB⟩ => ⟨⟨_, he, a, rfl⟩, hB⟩
  · obtain ⟨k, hk, hfk⟩ : ∃ k : Nat, k < n ∧ firstAt rs zs n 0 = k := by
      rcases firstAt_bounds rs zs n 0 with h | h
      · exact ⟨(firstAt rs zs n 0).toNat, by omega, by omega⟩
      · exact absurd h hf
    have e1 : passes rs bs zs n = bs.getD k false := by
      have h0 : ¬ ((k : Int) < 0) := by omega
      simp only [passes, hfk, if_neg h0, Int.toNat_natCast]
    rw [e1]
    cases hb : bs.getD k false with
    | false => exact (check_unmarked F cb g n k rs bs a2 n2 c2 b2 o2 zs name w hF hn hx hi hc hk hfk hb).mono fun e w' ⟨⟨a, he⟩, hB⟩ => ⟨⟨_, he, a, rfl⟩, hB⟩
    | true => exact (check_marked cb g n k rs bs a2 n2 c2 b2 o2 zs name w hn hx hi hc hk hfk hb).mono fun e w' ⟨he, hB⟩ => ⟨⟨_, he, rfl⟩, hB⟩
end Go.Proofs.Qxb6615958aFmt
