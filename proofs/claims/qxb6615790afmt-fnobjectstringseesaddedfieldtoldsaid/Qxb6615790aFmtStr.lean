import Derived.Test.Qxb6615790aFmtObj
import Derived.Stop.CallBack
import Derived.Stop.IfaceNil
import GoSem.ClaimData
namespace Go.Proofs.Qxb6615790aFmt
open Go.RowKit Go.Maps
open Go.Extern.Stop Go.Stop Go.Extern

theorem Tryf.call12 (args : Array Value) (w : World) : (callFunc 12 args).run Tryf.prog w = ((FmtStop.errorf #[9, 40] #[31] args).run Tryf.prog w).andThen fun v w' => .ok (.value v) w' :=
  run_callFunc_extern Tryf.func12 (by kernel_rfl) (by kernel_rfl) (by kernel_rfl) (by kernel_rfl) args w
theorem Tryf.guard (name : String) (w : World) : (FmtStop.guard name).run Tryf.prog w = .ok () w := by kernel_rfl
-- the three formats: two operands under the verb s
theorem Tryf.fmt0 : FmtStop.printed? ⟨#[37, 115, 37, 115, 32, 105, 115, 32, 109, 105, 115, 115, 105, 110, 103]⟩ 2 = some [(0, 115, false), (1, 115, false)] := by kernel_rfl
theorem Tryf.fmt0r (w : World) : (FmtDoors.printed ⟨#[37, 115, 37, 115, 32, 105, 115, 32, 109, 105, 115, 115, 105, 110, 103]⟩ 2).run Tryf.prog w = .ok [(0, 115, false), (1, 115, false)] w := by kernel_rfl
theorem Tryf.fmt1 : FmtStop.printed? ⟨#[37, 115, 37, 115, 32, 105, 115, 32, 110, 111, 116, 32, 97, 32, 115, 116, 114, 105, 110, 103]⟩ 2 = some [(0, 115, false), (1, 115, false)] := by kernel_rfl
theorem Tryf.fmt1r (w : World) : (FmtDoors.printed ⟨#[37, 115, 37, 115, 32, 105, 115, 32, 110, 111, 116, 32, 97, 32, 115, 116, 114, 105, 110, 103]⟩ 2).run Tryf.prog w = .ok [(0, 115, false), (1, 115, false)] w := by kernel_rfl
theorem Tryf.fmt2 : FmtStop.printed? ⟨#[37, 115, 37, 115, 32, 105, 115, 32, 101, 109, 112, 116, 121]⟩ 2 = some [(0, 115, false), (1, 115, false)] := by kernel_rfl
theorem Tryf.fmt2r (w : World) : (FmtDoors.printed ⟨#[37, 115, 37, 115, 32, 105, 115, 32, 101, 109, 112, 116, 121]⟩ 2).run Tryf.prog w = .ok [(0, 115, false), (1, 115, false)] w := by kernel_rfl
def Tryf.shape9 : List UInt8 := [12, 6, 0, 0, 0, 0, 0, 0, 0, 115, 116, 114, 105, 110, 103]
theorem Tryf.op9_115 (name : String) (x : ByteArray) (w : World) : (FmtStop.operand name false 115 false (.iface 9 (.string x))).run Tryf.prog w = .ok (Tryf.shape9, FmtStop.pack x.data.toList) w := by kernel_rfl
theorem Tryf.op9_115w (name : String) (x : ByteArray) (w : World) : (FmtStop.operand name true 115 false (.iface 9 (.string x))).run Tryf.prog w = .ok (Tryf.shape9, FmtStop.pack x.data.toList) w := by kernel_rfl
theorem Tryf.ptr43 (w : World) : (FmtStop.ptrTo "errors.errorString").run Tryf.prog w = .ok 43 w := by kernel_rfl
theorem Tryf.elem43 (w : World) : (elemOf 43).run Tryf.prog w = .ok 45 w := by kernel_rfl
attribute [local go_sem] Tryf.call12 Tryf.guard Tryf.fmt0 Tryf.fmt0r Tryf.fmt1 Tryf.fmt1r Tryf.fmt2 Tryf.fmt2r Tryf.op9_115 Tryf.op9_115w Tryf.ptr43 Tryf.elem43

/-- What String hands back: the text under the key, or an error. -/
def strOf (D : DataW Unit) (kl : Lit) (ne : Bool) : Option (List UInt8) :=
  if Maps.has D kl then
    match D.atKey kl .nil with
    | .lit (.string l) => if ne && l.isEmpty then none else some l
    | _ => none
  else none

def StrOut (o : Option (List UInt8)) (s : ByteArray) (err : Value) : Prop :=
  match o with
  | some l => s.data.toList = l ∧ err = .nilIface
  | none => s = ⟨#[]⟩ ∧ ∃ a, err = .iface 43 (.pointer (some a))

theorem zero20 (w : World) : (zeroValue 20).run Tryf.prog w = .ok .nilIface w := by kernel_rfl
theorem as_str (s : ByteArray) (w : World) : (Instr.typeAssert (.iface 9 (.string s)) 20 9 true).run Tryf.prog w = .ok (.tuple #[.string s, .bool true]) w := by kernel_rfl
theorem as_num (k : FloatKind) (x : Nat) (w : World) : (Instr.typeAssert (.iface 36 (.float k x)) 20 9 true).run Tryf.prog w = .ok (.tuple #[.string ⟨#[]⟩, .bool false]) w := by kernel_rfl
theorem as_nil (w : World) : (Instr.typeAssert .nilIface 20 9 true).run Tryf.prog w = .ok (.tuple #[.string ⟨#[]⟩, .bool false]) w := by kernel_rfl
attribute [local go_sem] as_str as_num as_nil
theorem anyElem_nil : anyElem .nilIface = some (.nil, []) := rfl

theorem anyElem_inv {v : Value} {d : DataW Unit} {ps : List MemPlace} (h : anyElem v = some (d, ps)) :
    (v = .nilIface ∧ d = .nil) ∨ (∃ k x, v = .iface 36 (.float k x) ∧ d = .lit (.bool false)) ∨ (∃ s, v = .iface 9 (.string s) ∧ d = .lit (.string s.data.toList)) := by
  unfold anyElem at h
  split at h
  · split at h
    · rename_i s ht; subst ht; simp at h; exact .inr (.inr ⟨_, rfl, h.1.symm⟩)
    · cases h
  · split at h
    · rename_i ht; subst ht; simp at h; exact .inr (.inl ⟨_, _, rfl, h.1.symm⟩)
    · cases h
  · simp at h; exact .inl ⟨rfl, h.1.symm⟩
  · cases h

set_option maxHeartbeats 400000 in
/-- The key is not there. -/
theorem string_missing (F : Interp) (B : Nat) (path key : ByteArray) (ne : Bool) (w : World) (hF : F.answers w.tape) (v : Value)
    (hlook : (Instr.lookup 26 (.map (some B)) (.string key) true).run Tryf.prog (w.alloc (.cells #[.map (some B), .string path] 28)) = .ok (.tuple #[v, .bool false]) (w.alloc (.cells #[.map (some B), .string path] 28))) :
    Calls Tryf.prog 8 #[.agg #[.map (some B), .string path], .string key, .bool ne] w fun e w' => (∃ a, e = .returned (.tuple #[.string ⟨#[]⟩, .iface 43 (.pointer (some a))])) ∧ Below w.heap.size w w' := by
  have hF' := hF
  unfold Interp.answers at hF'
  go_enter Tryf.func8, Tryf.ntmps8
  go_wp2
  go_ret2
  exact ⟨⟨_, rfl⟩, ((((Below.refl _ _).alloc (Nat.le_refl _) _).alloc (by simp) _).alloc (by simp; omega) _).drew⟩

set_option maxHeartbeats 400000 in
/-- The element is a number. -/
theorem string_number (F : Interp) (B : Nat) (path key : ByteArray) (ne : Bool) (w : World) (hF : F.answers w.tape) (k : FloatKind) (x : Nat)
    (hlook : (Instr.lookup 26 (.map (some B)) (.string key) true).run Tryf.prog (w.alloc (.cells #[.map (some B), .string path] 28)) = .ok (.tuple #[.iface 36 (.float k x), .bool true]) (w.alloc (.cells #[.map (some B), .string path] 28))) :
    Calls Tryf.prog 8 #[.agg #[.map (some B), .string path], .string key, .bool ne] w fun e w' => (∃ a, e = .returned (.tuple #[.string ⟨#[]⟩, .iface 43 (.pointer (some a))])) ∧ Below w.heap.size w w' := by
  have hF' := hF
  unfold Interp.answers at hF'
  go_enter Tryf.func8, Tryf.ntmps8
  go_wp2
  go_ret2
  exact ⟨⟨_, rfl⟩, ((((Below.refl _ _).alloc (Nat.le_refl _) _).alloc (by simp) _).alloc (by simp; omega) _).drew⟩

set_option maxHeartbeats 400000 in
/-- The element is nil. -/
theorem string_nil (F : Interp) (B : Nat) (path key : ByteArray) (ne : Bool) (w : World) (hF : F.answers w.tape)
    (hlook : (Instr.lookup 26 (.map (some B)) (.string key) true).run Tryf.prog (w.alloc (.cells #[.map (some B), .string path] 28)) = .ok (.tuple #[.nilIface, .bool true]) (w.alloc (.cells #[.map (some B), .string path] 28))) :
    Calls Tryf.prog 8 #[.agg #[.map (some B), .string path], .string key, .bool ne] w fun e w' => (∃ a, e = .returned (.tuple #[.string ⟨#[]⟩, .iface 43 (.pointer (some a))])) ∧ Below w.heap.size w w' := by
  have hF' := hF
  unfold Interp.answers at hF'
  go_enter Tryf.func8, Tryf.ntmps8
  go_wp2
  go_ret2
  exact ⟨⟨_, rfl⟩, ((((Below.refl _ _).alloc (Nat.le_refl _) _).alloc (by simp) _).alloc (by simp; omega) _).drew⟩

set_option maxHeartbeats 400000 in
/-- An empty text that is not let. -/
theorem string_empty (F : Interp) (B : Nat) (path key s : ByteArray) (w : World) (hF : F.answers w.tape) (hs : s.toList.isEmpty = true)
    (hlook : (Instr.lookup 26 (.map (some B)) (.string key) true).run Tryf.prog (w.alloc (.cells #[.map (some B), .string path] 28)) = .ok (.tuple #[.iface 9 (.string s), .bool true]) (w.alloc (.cells #[.map (some B), .string path] 28))) :
    Calls Tryf.prog 8 #[.agg #[.map (some B), .string path], .string key, .bool true] w fun e w' => (∃ a, e = .returned (.tuple #[.string ⟨#[]⟩, .iface 43 (.pointer (some a))])) ∧ Below w.heap.size w w' := by
  have hF' := hF
  unfold Interp.answers at hF'
  go_enter Tryf.func8, Tryf.ntmps8
  go_wp2
  go_ret2
  exact ⟨⟨_, rfl⟩, ((((Below.refl _ _).alloc (Nat.le_refl _) _).alloc (by simp) _).alloc (by simp; omega) _).drew⟩

set_option maxHeartbeats 400000 in
theorem string_there (B : Nat) (path key s : ByteArray) (ne : Bool) (w : World) (hs : ne = true → s.toList.isEmpty = false)
    (hlook : (Instr.lookup 26 (.map (some B)) (.string key) true).run Tryf.prog (w.alloc (.cells #[.map (some B), .string path] 28)) = .ok (.tuple #[.iface 9 (.string s), .bool true]) (w.alloc (.cells #[.map (some B), .string path] 28))) :
    Calls Tryf.prog 8 #[.agg #[.map (some B), .string path], .string key, .bool ne] w fun e w' => e = .returned (.tuple #[.string s, .nilIface]) ∧ Below w.heap.size w w' := by
  cases ne
  · go_enter Tryf.func8, Tryf.ntmps8
    go_wp2
    go_ret2
    exact ⟨rfl, (Below.refl _ _).alloc (Nat.le_refl _) _⟩
  · have hs' := hs rfl
    clear hs
    go_enter Tryf.func8, Tryf.ntmps8
    go_wp2
    go_ret2
    exact ⟨rfl, (Below.refl _ _).alloc (Nat.le_refl _) _⟩

theorem litOf_toList (s : ByteArray) : s.data.toList = s.toList := by
  simp [ByteArray.toList_eq]

/-- String, whatever the map holds. -/
theorem string_any (F : Interp) (B n : Nat) (D : DataW Unit) (path key : ByteArray) (ne : Bool) (w : World) (hF : F.answers w.tape) (hk : key.size ≤ maxLen) (hown : w.ownsMap Tryf.prog 9 anyElem B n D) :
    Calls Tryf.prog 8 #[.agg #[.map (some B), .string path], .string key, .bool ne] w fun e w' =>
      (∃ s err, e = .returned (.tuple #[.string s, err]) ∧ StrOut (strOf D (litOf key) ne) s err) ∧ Below w.heap.size w w' := by
  have hkey := Go.WideMaps.keyOf_string_mk Tryf.underlying9 hk
  obtain ⟨v, ps, hl, hv⟩ := (hown.alloc (.cells #[.map (some B), .string path] 28)).look_ok law9 Tryf.underlying26 (zero20 _) anyElem_nil hkey
  have hkl : (Lit.string key.data.toList) = litOf key := rfl
  rw [hkl] at hl hv
  cases hh : Maps.has D (litOf key) with
  | false =>
    rw [hh] at hl
    have e1 : strOf D (litOf key) ne = none := by simp [strOf, hh]
    rw [e1]
    exact (string_missing F B path key ne w hF v hl).mono fun e w' ⟨⟨a, he⟩, hb⟩ => ⟨⟨_, _, he, rfl, a, rfl⟩, hb⟩
  | true =>
    rw [hh] at hl
    rcases anyElem_inv hv with ⟨rfl, hd⟩ | ⟨k, x, rfl, hd⟩ | ⟨s, rfl, hd⟩
    · have e1 : strOf D (litOf key) ne = none := by simp [strOf, hh, hd]
      rw [e1]
      exact (string_nil F B path key ne w hF hl).mono fun e w' ⟨⟨a, he⟩, hb⟩ => ⟨⟨_, _, he, rfl, a, rfl⟩, hb⟩
    · have e1 : strOf D (litOf key) ne = none := by simp [strOf, hh, hd]
      rw [e1]
      exact (string_number F B path key ne w hF k x hl).mono fun e w' ⟨⟨a, he⟩, hb⟩ => ⟨⟨_, _, he, rfl, a, rfl⟩, hb⟩
    · by_cases hc : ne = true ∧ s.toList.isEmpty = true
      · obtain ⟨rfl, hs⟩ := hc
        have e1 : strOf D (litOf key) true = none := by simp only [strOf, hh, hd, litOf_toList]; simp [hs]
        rw [e1]
        exact (string_empty F B path key s w hF hs hl).mono fun e w' ⟨⟨a, he⟩, hb⟩ => ⟨⟨_, _, he, rfl, a, rfl⟩, hb⟩
      · have e1 : strOf D (litOf key) ne = some s.data.toList := by
          have : (ne && s.toList.isEmpty) = false := by cases ne <;> simp_all
          simp only [strOf, hh, hd, litOf_toList, this]; simp
        rw [e1]
        exact (string_there B path key s ne w (fun h => by simpa [h] using hc) hl).mono fun e w' ⟨he, hb⟩ => ⟨⟨_, _, he, rfl, rfl⟩, hb⟩
end Go.Proofs.Qxb6615790aFmt
