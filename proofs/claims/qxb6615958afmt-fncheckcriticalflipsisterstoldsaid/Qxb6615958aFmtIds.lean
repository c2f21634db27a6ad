import Derived.Test.Qxb6615958aFmtEq
namespace Go.Proofs.Qxb6615958aFmt
open Go.RowKit

/-- One element of ids: a slice of ints. -/
structure Row where
  a : Option Addr
  len : Nat
  cap : Nat
  b : Nat
  off : Nat
  zs : List Int
def Row.nil : Row := ⟨none, 0, 0, 0, 0, []⟩
def Row.val (r : Row) : Value := .slice r.a r.len r.cap
def Row.ok (w : World) (r : Row) : Prop := IntRow w r.a r.len r.b r.off r.zs
theorem Row.ok_nil (w : World) : Row.nil.ok w := ⟨fun h => absurd h (Nat.lt_irrefl 0), fun k hk => absurd hk (Nat.not_lt_zero k), rfl, Nat.zero_le _⟩
theorem Row.ok.below {w w' : World} {r : Row} (h : r.ok w) (hb : Below w.heap.size w w') : r.ok w' := IntRow.below h hb

/-- ids, as the walks are told of it. -/
structure IdsRow (w : World) (a : Option Addr) (len b off : Nat) (rs : List Row) : Prop where
  here : 0 < len → a = some ⟨b, off, none⟩
  cells : ∀ k, k < len → w.cell? ⟨b, off + k, none⟩ = some (rs.getD k Row.nil).val
  long : rs.length = len
  short : len ≤ 9223372036854775807
  rows : ∀ r ∈ rs, r.ok w

theorem IdsRow.at {w : World} {a : Option Addr} {len b off : Nat} {rs : List Row} (h : IdsRow w a len b off rs) (cap k : Nat) (hk : k < len) (w' : World) :
    (Instr.indexAt 22 (.slice a len cap) (.int .i64 k)).run Tryf.prog w' = .ok (.pointer (some ⟨b, off + k, none⟩)) w' := by
  rw [h.here (by omega)]
  go_simp

theorem IdsRow.below {w w' : World} {a : Option Addr} {len b off : Nat} {rs : List Row} (h : IdsRow w a len b off rs) (hb : Below w.heap.size w w') : IdsRow w' a len b off rs :=
  ⟨h.here, fun k hk => (hb.cell (p := ⟨b, off + k, none⟩) (lt_of_cell (h.cells k hk))).trans (h.cells k hk), h.long, h.short, fun r hr => (h.rows r hr).below hb⟩

theorem IdsRow.row {w : World} {a : Option Addr} {len b off : Nat} {rs : List Row} (h : IdsRow w a len b off rs) (k : Nat) : (rs.getD k Row.nil).ok w := by
  by_cases hk : k < rs.length
  · rw [List.getD_eq_getElem?_getD, List.getElem?_eq_getElem hk]
    exact h.rows _ (List.getElem_mem hk)
  · rw [List.getD_eq_getElem?_getD, List.getElem?_eq_none (by omega)]
    exact Row.ok_nil w

/-- crits. -/
structure BoolRow (w : World) (a : Option Addr) (len b off : Nat) (bs : List Bool) : Prop where
  here : 0 < len → a = some ⟨b, off, none⟩
  cells : ∀ k, k < len → w.cell? ⟨b, off + k, none⟩ = some (.bool (bs.getD k false))
  long : bs.length = len
  short : len ≤ 9223372036854775807

theorem BoolRow.at {w : World} {a : Option Addr} {len b off : Nat} {bs : List Bool} (h : BoolRow w a len b off bs) (cap k : Nat) (hk : k < len) (w' : World) :
    (Instr.indexAt 23 (.slice a len cap) (.int .i64 k)).run Tryf.prog w' = .ok (.pointer (some ⟨b, off + k, none⟩)) w' := by
  rw [h.here (by omega)]
  go_simp

theorem BoolRow.below {w w' : World} {a : Option Addr} {len b off : Nat} {bs : List Bool} (h : BoolRow w a len b off bs) (hb : Below w.heap.size w w') : BoolRow w' a len b off bs :=
  ⟨h.here, fun k hk => (hb.cell (p := ⟨b, off + k, none⟩) (lt_of_cell (h.cells k hk))).trans (h.cells k hk), h.long, h.short⟩

set_option maxHeartbeats 1000000 in
theorem bytes5_any (a0 a1 a2 : Option Addr) (n0 c0 b0 o0 n1 c1 n2 c2 : Nat) (rs : List Row) (name : ByteArray) (p : Int) (c : Bool) (w : World) (h1 : n1 ≤ 9223372036854775807) (h2 : n2 ≤ 9223372036854775807) (hs : name.size ≤ 9223372036854775807)
    (hr : IdsRow w a0 n0 b0 o0 rs) :
    Calls Tryf.prog 5 #[.slice a0 n0 c0, .slice a1 n1 c1, .slice a2 n2 c2, .string name, .int .i64 p, .bool c] w fun e w' => SomeB e ∧ w' = w := by
  have hm := hr.short
  go_enter Tryf.func5, Tryf.ntmps5
  go_wp2
  · go_ret
    exact ⟨⟨false, rfl⟩, rfl⟩
  go_loopg [13, 14] n0 (fun g z i wr => wr = w ∧ ∃ k : Nat, k ≤ n0 ∧ g = n0 - k ∧ i = .int .i64 k ∧ ∃ u : Int, z = .int .i64 u ∧ 0 ≤ u ∧ u ≤ 1048576)
  case atStart => exact ⟨rfl, 0, Nat.zero_le _, rfl, rfl, _, rfl, by omega, by omega⟩
  case round =>
    obtain ⟨rfl, k, hk, rfl, rfl, u, rfl, hu0, hu1⟩ := hrel
    by_cases hlt : k < n0
    · have hix := hr.at c0 k hlt
      have hcell := hr.cells k hlt
      have hok := (hr.row k).short
      generalize rs.getD k Row.nil = r at hcell hok
      unfold Row.val at hcell
      clear hr
      go_wp2
      · go_ret
        exact ⟨⟨false, rfl⟩, rfl⟩
      · go_ret
        exact ⟨⟨false, rfl⟩, rfl⟩
      · go_roundg (n0 - (k + 1))
        case measure => omega
        case rel => exact ⟨rfl, k + 1, by omega, rfl, by first | rfl | go_num, _, rfl, by omega, by omega⟩
    · clear hr
      go_wp2
      all_goals (go_ret; first | exact ⟨⟨false, rfl⟩, rfl⟩ | exact ⟨⟨true, rfl⟩, rfl⟩)

set_option maxHeartbeats 1000000 in
theorem bytes10_any (a0 a1 a2 : Option Addr) (n0 c0 b0 o0 n1 c1 n2 c2 : Nat) (rs : List Row) (name : ByteArray) (w : World) (h1 : n1 ≤ 9223372036854775807) (h2 : n2 ≤ 9223372036854775807) (hs : name.size ≤ 9223372036854775807)
    (hr : IdsRow w a0 n0 b0 o0 rs) :
    Calls Tryf.prog 10 #[.slice a0 n0 c0, .slice a1 n1 c1, .slice a2 n2 c2, .string name] w fun e w' => SomeB e ∧ w' = w := by
  have hm := hr.short
  go_enter Tryf.func10, Tryf.ntmps10
  go_wp2
  · go_ret
    exact ⟨⟨false, rfl⟩, rfl⟩
  go_loopg [9, 10] n0 (fun g z i wr => wr = w ∧ ∃ k : Nat, k ≤ n0 ∧ g = n0 - k ∧ i = .int .i64 k ∧ ∃ u : Int, z = .int .i64 u ∧ 0 ≤ u ∧ u ≤ 1048576)
  case atStart => exact ⟨rfl, 0, Nat.zero_le _, rfl, rfl, _, rfl, by omega, by omega⟩
  case round =>
    obtain ⟨rfl, k, hk, rfl, rfl, u, rfl, hu0, hu1⟩ := hrel
    by_cases hlt : k < n0
    · have hix := hr.at c0 k hlt
      have hcell := hr.cells k hlt
      have hok := (hr.row k).short
      generalize rs.getD k Row.nil = r at hcell hok
      unfold Row.val at hcell
      clear hr
      go_wp2
      · go_ret
        exact ⟨⟨false, rfl⟩, rfl⟩
      · go_ret
        exact ⟨⟨false, rfl⟩, rfl⟩
      · go_roundg (n0 - (k + 1))
        case measure => omega
        case rel => exact ⟨rfl, k + 1, by omega, rfl, by first | rfl | go_num, _, rfl, by omega, by omega⟩
    · clear hr
      go_wp2
      all_goals (go_ret; first | exact ⟨⟨false, rfl⟩, rfl⟩ | exact ⟨⟨true, rfl⟩, rfl⟩)

/-- The call returned a bool; if it is false, P holds. -/
def FalseB (P : Prop) (e : Ending) : Prop := ∃ r : Bool, e = .returned (.bool r) ∧ (r = false → P)

set_option maxHeartbeats 2000000 in
theorem tooBig_any (a0 a1 a2 : Option Addr) (n0 c0 b0 o0 n1 c1 n2 c2 : Nat) (rs : List Row) (name : ByteArray) (w : World) (h1 : n1 ≤ 9223372036854775807) (h2 : n2 ≤ 9223372036854775807) (hs : name.size ≤ 9223372036854775807)
    (hr : IdsRow w a0 n0 b0 o0 rs) :
    Calls Tryf.prog 6 #[.slice a0 n0 c0, .slice a1 n1 c1, .slice a2 n2 c2, .string name] w fun e w' => FalseB (n0 ≤ 131072 ∧ n1 ≤ 1048576 ∧ n2 ≤ 131072 ∧ name.size ≤ 1048576) e ∧ w' = w := by
  have hm := hr.short
  by_cases hall : n0 ≤ 131072 ∧ n1 ≤ 1048576 ∧ n2 ≤ 131072 ∧ name.size ≤ 1048576
  · have HA := Hid.mk hall
    obtain ⟨g0, g1, g2, g3⟩ := hall
    go_enter Tryf.func6, Tryf.ntmps6
    go_wp2
    · go_ret
      exact ⟨⟨true, rfl, fun h => by cases h⟩, rfl⟩
    go_loopg [9, 10] n0 (fun g z i wr => wr = w ∧ ∃ k : Nat, k ≤ n0 ∧ g = n0 - k ∧ i = .int .i64 k ∧ ∃ u : Int, z = .int .i64 u ∧ 0 ≤ u ∧ u ≤ 1048576)
    case atStart => exact ⟨rfl, 0, Nat.zero_le _, rfl, rfl, _, rfl, by omega, by omega⟩
    case round =>
      obtain ⟨rfl, k, hk, rfl, rfl, u, rfl, hu0, hu1⟩ := hrel
      by_cases hlt : k < n0
      · have hix := hr.at c0 k hlt
        have hcell := hr.cells k hlt
        have hok := (hr.row k).short
        generalize rs.getD k Row.nil = r at hcell hok
        unfold Row.val at hcell
        clear hr
        go_wp2
        · go_ret
          exact ⟨⟨true, rfl, fun h => by cases h⟩, rfl⟩
        · go_ret
          exact ⟨⟨true, rfl, fun h => by cases h⟩, rfl⟩
        · go_roundg (n0 - (k + 1))
          case measure => omega
          case rel => exact ⟨rfl, k + 1, by omega, rfl, by first | rfl | go_num, _, rfl, by omega, by omega⟩
      · clear hr
        go_wp2
        go_ret
        exact ⟨⟨false, rfl, fun _ => HA.out⟩, rfl⟩
  · have HA := Hid.mk hall
    clear hall
    go_enter Tryf.func6, Tryf.ntmps6
    go_wp2
    all_goals first
      | (exfalso; have hb := HA.out; apply hb; refine ⟨?_, ?_, ?_, ?_⟩ <;> omega)
      | (go_ret; exact ⟨⟨true, rfl, fun h => by cases h⟩, rfl⟩)

set_option maxHeartbeats 1000000 in
theorem critAt_any (a : Option Addr) (n c b o k : Nat) (bs : List Bool) (w : World) (h : BoolRow w a n b o bs) :
    Calls Tryf.prog 7 #[.slice a n c, .int .i64 k] w fun e w' => e = .returned (.bool (bs.getD k false)) ∧ w' = w := by
  by_cases hk : k < n
  · have hix := h.at c k hk
    have hcell := h.cells k hk
    clear h
    go_enter Tryf.func7, Tryf.ntmps7
    go_wp2
    go_ret
    exact ⟨rfl, rfl⟩
  · have e1 : bs.getD k false = false := by
      have := h.long
      rw [List.getD_eq_getElem?_getD, List.getElem?_eq_none (by omega)]
      rfl
    rw [e1]
    clear e1 h
    go_enter Tryf.func7, Tryf.ntmps7
    go_wp2
    go_ret
    exact ⟨rfl, rfl⟩

/-- Is the id among the first k? -/
def hasB (rs : List Row) (zs : List Int) : Bool := rs.any fun r => decide (r.zs = zs)

theorem hasB_snoc (rs : List Row) (zs : List Int) (k : Nat) (hk : k < rs.length) : hasB (rs.take (k + 1)) zs = (hasB (rs.take k) zs || decide ((rs.getD k Row.nil).zs = zs)) := by
  unfold hasB
  rw [List.take_succ_eq_append_getElem hk, List.any_append, List.getD_eq_getElem?_getD, List.getElem?_eq_getElem hk]
  simp only [List.any_cons, List.any_nil, Bool.or_false, Option.getD_some]

theorem hasB_hit (rs : List Row) (zs : List Int) (k : Nat) (hk : k < rs.length) (h : decide ((rs.getD k Row.nil).zs = zs) = true) : hasB rs zs = true := by
  unfold hasB
  rw [List.any_eq_true]
  refine ⟨rs.getD k Row.nil, ?_, h⟩
  rw [List.getD_eq_getElem?_getD, List.getElem?_eq_getElem hk]
  exact List.getElem_mem hk

set_option maxHeartbeats 1000000 in
theorem hasID_any (a0 a2 : Option Addr) (n0 c0 b0 o0 n2 c2 b2 o2 : Nat) (rs : List Row) (zs : List Int) (w : World) (hr : IdsRow w a0 n0 b0 o0 rs) (hi : IntRow w a2 n2 b2 o2 zs) :
    Calls Tryf.prog 8 #[.slice a0 n0 c0, .slice a2 n2 c2] w fun e w' => e = .returned (.bool (hasB rs zs)) ∧ Below w.heap.size w w' := by
  have hm := hr.short
  go_enter Tryf.func8, Tryf.ntmps8
  go_wp2
  go_loopg [5] n0 (fun g i wr => ∃ k : Nat, k ≤ n0 ∧ g = n0 - k ∧ i = .int .i64 k ∧ hasB (rs.take k) zs = false ∧ Below w.heap.size w wr)
  case atStart => exact ⟨0, Nat.zero_le _, rfl, rfl, rfl, Below.refl _ _⟩
  case round =>
    obtain ⟨k, hk, rfl, rfl, hno, hB⟩ := hrel
    have hl := hr.long
    by_cases hlt : k < n0
    · have hq := hr.below hB
      have hix := hq.at c0 k hlt
      have hcell := hq.cells k hlt
      have hok := hq.row k
      have hiq := hi.below hB
      have HS := Hid.mk (hasB_snoc rs zs k (by omega))
      have HH := Hid.mk (hasB_hit rs zs k (by omega))
      have HNO := Hid.mk hno
      have HB := Hid.mk hB
      have HR := Hid.mk hr
      have HI := Hid.mk hi
      clear hno hB hr hi hq hl
      generalize rs.getD k Row.nil = r at hcell hok HS HH
      unfold Row.val at hcell
      unfold Row.ok at hok
      go_wp2_with fail
      refine (intsEqual_any r.a a2 r.len r.cap r.b r.off n2 c2 b2 o2 r.zs zs wr hok hiq).mono ?_
      rintro e w1 ⟨rfl, hB1⟩
      have HB1 := Hid.mk (HB.out.trans (hB1.mono HB.out.size))
      clear hB1 hok hiq hcell hix
      cases hd : decide (r.zs = zs) with
      | true =>
        go_wp2
        go_ret
        exact ⟨ret_bool (HH.out hd).symm, HB1.out⟩
      | false =>
        have HX := Hid.mk (show hasB (rs.take (k + 1)) zs = false by rw [HS.out, HNO.out, hd]; rfl)
        clear HS HH HNO hd
        go_wp2
        go_roundg (n0 - (k + 1))
        case measure => omega
        case rel => exact ⟨k + 1, by omega, rfl, by first | rfl | go_num, HX.out, HB1.out⟩
    · have HX := Hid.mk (show hasB rs zs = false by rw [List.take_of_length_le (by omega)] at hno; exact hno)
      clear hno
      go_wp2
      go_ret
      exact ⟨ret_bool HX.out.symm, hB⟩

end Go.Proofs.Qxb6615958aFmt
