import Derived.Test.Qxb6615790aFmtUtf
namespace Go.Proofs.Qxb6615790aFmt
open Go.RowKit

/-- What the walks are told of a slice of strings: where it has an element it begins at ⟨b, off⟩, and its cells hold 'ss'. -/
structure StrRow (w : World) (a : Option Addr) (len b off : Nat) (ss : List ByteArray) : Prop where
  here : 0 < len → a = some ⟨b, off, none⟩
  cells : ∀ k, k < len → w.cell? ⟨b, off + k, none⟩ = some (.string (ss.getD k ByteArray.empty))
  long : ss.length = len
  short : len ≤ 140737488351232
  sizes : ∀ s ∈ ss, s.size ≤ maxLen

theorem StrRow.at {w : World} {a : Option Addr} {len b off : Nat} {ss : List ByteArray} (h : StrRow w a len b off ss) (cap k : Nat) (hk : k < len) (w' : World) :
    (Instr.indexAt 22 (.slice a len cap) (.int .i64 k)).run Tryf.prog w' = .ok (.pointer (some ⟨b, off + k, none⟩)) w' := by
  rw [h.here (by omega)]
  go_simp

theorem StrRow.size {w : World} {a : Option Addr} {len b off : Nat} {ss : List ByteArray} (h : StrRow w a len b off ss) (k : Nat) (hk : k < len) : (ss.getD k ByteArray.empty).size ≤ maxLen := by
  have hl := h.long
  have e : ss.getD k ByteArray.empty = ss[k]'(by omega) := by simp [List.getD_eq_getElem?_getD, List.getElem?_eq_getElem (show k < ss.length by omega)]
  rw [e]
  exact h.sizes _ (List.getElem_mem _)

set_option maxHeartbeats 400000 in
theorem addLens_any (t : Int) (a : Option Addr) (len cap b off : Nat) (ss : List ByteArray) (w : World) (h0 : 0 ≤ t) (h1 : t ≤ 1048576) (hr : StrRow w a len b off ss) :
    Calls Tryf.prog 9 #[.int .i64 t, .slice a len cap] w fun e w' => (∃ r : Int, e = .returned (.int .i64 r) ∧ 0 ≤ r ∧ r ≤ 3000000) ∧ w' = w := by
  have hm := hr.short
  go_enter Tryf.func9, Tryf.ntmps9
  go_wp2
  go_loopg [0, 5] len (fun g t i wr => wr = w ∧ ∃ k : Nat, k ≤ len ∧ g = len - k ∧ i = .int .i64 k ∧ ∃ u : Int, t = .int .i64 u ∧ 0 ≤ u ∧ u ≤ 1048576)
  case atStart => exact ⟨rfl, 0, Nat.zero_le _, rfl, rfl, t, rfl, h0, h1⟩
  case round =>
    obtain ⟨rfl, k, hk, rfl, rfl, u, rfl, hu0, hu1⟩ := hrel
    by_cases hlt : k < len
    · have hix := hr.at cap k hlt
      have hcell := hr.cells k hlt
      generalize ss.getD k ByteArray.empty = s at hcell
      go_wp2
      · go_ret
        exact ⟨⟨_, rfl, by omega, by omega⟩, rfl⟩
      · go_ret
        exact ⟨⟨_, rfl, by omega, by omega⟩, rfl⟩
      · go_roundg (len - (k + 1))
        case measure => omega
        case rel => exact ⟨rfl, k + 1, by omega, rfl, by first | rfl | go_num, _, rfl, by omega, by omega⟩
    · go_wp2
      go_ret
      exact ⟨⟨u, rfl, by omega, by omega⟩, rfl⟩

set_option maxHeartbeats 400000 in
theorem allUTF8_any (a : Option Addr) (len cap b off : Nat) (ss : List ByteArray) (w : World) (hr : StrRow w a len b off ss) :
    Calls Tryf.prog 10 #[.slice a len cap] w fun e w' => SomeB e ∧ w' = w := by
  have hm := hr.short
  go_enter Tryf.func10, Tryf.ntmps10
  go_wp2
  go_loopg [3] len (fun g i wr => wr = w ∧ ∃ k : Nat, k ≤ len ∧ g = len - k ∧ i = .int .i64 k)
  case atStart => exact ⟨rfl, 0, Nat.zero_le _, rfl, rfl⟩
  case round =>
    obtain ⟨rfl, k, hk, rfl, rfl⟩ := hrel
    by_cases hlt : k < len
    · have hix := hr.at cap k hlt
      have hcell := hr.cells k hlt
      have hsz := hr.size k hlt
      generalize ss.getD k ByteArray.empty = s at hcell hsz
      go_wp2_with fail
      refine (validUTF8_any s _ hsz).mono ?_
      rintro e w' ⟨⟨r, rfl⟩, rfl⟩
      cases r
      · go_wp2
        go_ret
        exact ⟨⟨false, rfl⟩, rfl⟩
      · go_wp2
        go_roundg (len - (k + 1))
        case measure => omega
        case rel => exact ⟨rfl, k + 1, by omega, rfl, by first | rfl | go_num⟩
    · go_wp2
      go_ret
      exact ⟨⟨true, rfl⟩, rfl⟩

/-- The call returned a bool; if it is true, P holds. -/
def TrueB (P : Prop) (e : Ending) : Prop := ∃ r : Bool, e = .returned (.bool r) ∧ (r = true → P)

set_option maxHeartbeats 1000000 in
theorem fieldsFit_any (t : Int) (a0 a1 a2 : Option Addr) (n0 c0 b0 o0 n1 c1 b1 o1 n2 c2 b2 o2 : Nat) (s0 s1 s2 : List ByteArray) (w : World) (ht : 0 ≤ t) (ht' : t ≤ 8000000)
    (hr0 : StrRow w a0 n0 b0 o0 s0) (hr1 : StrRow w a1 n1 b1 o1 s1) (hr2 : StrRow w a2 n2 b2 o2 s2) :
    Calls Tryf.prog 5 #[.slice a0 n0 c0, .slice a1 n1 c1, .slice a2 n2 c2, .int .i64 t] w fun e w' => TrueB (n1 = n0) e ∧ w' = w := by
  go_enter Tryf.func5, Tryf.ntmps5
  by_cases h1 : t ≤ 1048576
  · go_wp2_with fail
    refine (addLens_any t a0 n0 c0 b0 o0 s0 w ht h1 hr0).mono ?_
    rintro e w' ⟨⟨r1, rfl, hr1a, hr1b⟩, rfl⟩
    by_cases h2 : r1 ≤ 1048576
    · go_wp2_with fail
      refine (addLens_any r1 a1 n1 c1 b1 o1 s1 _ hr1a h2 hr1).mono ?_
      rintro e w' ⟨⟨r2, rfl, hr2a, hr2b⟩, rfl⟩
      by_cases h3 : r2 ≤ 1048576
      · go_wp2_with fail
        refine (addLens_any r2 a2 n2 c2 b2 o2 s2 _ hr2a h3 hr2).mono ?_
        rintro e w' ⟨⟨r3, rfl, hr3a, hr3b⟩, rfl⟩
        by_cases h4 : r3 ≤ 1048576
        · by_cases hn : (n1 : Int) = n0
          · have hN : Hid (n1 = n0) := (by omega : n1 = n0)
            go_wp2_with fail
            clear hn
            refine (allUTF8_any a0 n0 c0 b0 o0 s0 _ hr0).mono ?_
            rintro e w' ⟨⟨q1, rfl⟩, rfl⟩
            cases q1
            · go_wp2
              go_ret
              exact ⟨⟨false, rfl, fun h => by cases h⟩, rfl⟩
            · go_wp2_with fail
              refine (allUTF8_any a1 n1 c1 b1 o1 s1 _ hr1).mono ?_
              rintro e w' ⟨⟨q2, rfl⟩, rfl⟩
              cases q2
              · go_wp2
                go_ret
                exact ⟨⟨false, rfl, fun h => by cases h⟩, rfl⟩
              · go_wp2_with fail
                refine (allUTF8_any a2 n2 c2 b2 o2 s2 _ hr2).mono ?_
                rintro e w' ⟨⟨q3, rfl⟩, rfl⟩
                go_wp2
                go_ret
                exact ⟨⟨q3, rfl, fun _ => hN.out⟩, rfl⟩
          · go_wp2
            go_ret
            exact ⟨⟨false, rfl, fun h => by cases h⟩, rfl⟩
        · go_wp2
          go_ret
          exact ⟨⟨false, rfl, fun h => by cases h⟩, rfl⟩
      · go_wp2
        go_ret
        exact ⟨⟨false, rfl, fun h => by cases h⟩, rfl⟩
    · go_wp2
      go_ret
      exact ⟨⟨false, rfl, fun h => by cases h⟩, rfl⟩
  · go_wp2
    go_ret
    exact ⟨⟨false, rfl, fun h => by cases h⟩, rfl⟩

set_option maxHeartbeats 2000000 in
theorem bytes_any (a0 a1 a2 : Option Addr) (n0 c0 b0 o0 n1 c1 b1 o1 n2 c2 b2 o2 : Nat) (s0 s1 s2 : List ByteArray) (path key nk nv : ByteArray) (ne : Bool) (w : World)
    (hr0 : StrRow w a0 n0 b0 o0 s0) (hr1 : StrRow w a1 n1 b1 o1 s1) (hr2 : StrRow w a2 n2 b2 o2 s2) :
    Calls Tryf.prog 4 #[.slice a0 n0 c0, .slice a1 n1 c1, .slice a2 n2 c2, .string path, .string key, .bool ne, .string nk, .string nv] w fun e w' => SomeB e ∧ w' = w := by
  have hm0 := hr0.short
  have hm1 := hr1.short
  have hm2 := hr2.short
  go_enter Tryf.func4, Tryf.ntmps4
  go_wp2
  · go_ret
    exact ⟨⟨false, rfl⟩, rfl⟩
  go_loopg [17, 18] n0 (fun g z i wr => wr = w ∧ ∃ k : Nat, k ≤ n0 ∧ g = n0 - k ∧ i = .int .i64 k ∧ ∃ u : Int, z = .int .i64 u ∧ 0 ≤ u ∧ u ≤ 1048576)
  case atStart => exact ⟨rfl, 0, Nat.zero_le _, rfl, rfl, _, rfl, by omega, by omega⟩
  case round =>
    obtain ⟨rfl, k, hk, rfl, rfl, u, rfl, hu0, hu1⟩ := hrel
    by_cases hlt : k < n0
    · have hix := hr0.at c0 k hlt
      have hcell := hr0.cells k hlt
      generalize s0.getD k ByteArray.empty = s at hcell
      go_wp2
      · go_ret
        exact ⟨⟨false, rfl⟩, rfl⟩
      · go_ret
        exact ⟨⟨false, rfl⟩, rfl⟩
      · go_roundg (n0 - (k + 1))
        case measure => omega
        case rel => exact ⟨rfl, k + 1, by omega, rfl, by first | rfl | go_num, _, rfl, by omega, by omega⟩
    · go_wp2
      · go_ret
        exact ⟨⟨false, rfl⟩, rfl⟩
      · go_ret
        exact ⟨⟨false, rfl⟩, rfl⟩
      go_loopg [17, 19] n1 (fun g z i wx => wx = wr ∧ ∃ k : Nat, k ≤ n1 ∧ g = n1 - k ∧ i = .int .i64 k ∧ ∃ u : Int, z = .int .i64 u ∧ 0 ≤ u ∧ u ≤ 1048576)
      case atStart => exact ⟨rfl, 0, Nat.zero_le _, rfl, rfl, _, rfl, by omega, by omega⟩
      case round =>
        obtain ⟨rfl, k1, hk1, rfl, rfl, u1, rfl, hv0, hv1⟩ := hrel
        by_cases hlt1 : k1 < n1
        · have hix := hr1.at c1 k1 hlt1
          have hcell := hr1.cells k1 hlt1
          generalize s1.getD k1 ByteArray.empty = s at hcell
          go_wp2
          · go_ret
            exact ⟨⟨false, rfl⟩, rfl⟩
          · go_ret
            exact ⟨⟨false, rfl⟩, rfl⟩
          · go_roundg (n1 - (k1 + 1))
            case measure => omega
            case rel => exact ⟨rfl, k1 + 1, by omega, rfl, by first | rfl | go_num, _, rfl, by omega, by omega⟩
        · go_wp2
          · go_ret
            exact ⟨⟨false, rfl⟩, rfl⟩
          · go_ret
            exact ⟨⟨false, rfl⟩, rfl⟩
          go_loopg [17, 20] n2 (fun g z i wy => wy = wr ∧ ∃ k : Nat, k ≤ n2 ∧ g = n2 - k ∧ i = .int .i64 k ∧ ∃ u : Int, z = .int .i64 u ∧ 0 ≤ u ∧ u ≤ 1048576)
          case atStart => exact ⟨rfl, 0, Nat.zero_le _, rfl, rfl, _, rfl, by omega, by omega⟩
          case round =>
            obtain ⟨rfl, k2, hk2, rfl, rfl, u2, rfl, hx0, hx1⟩ := hrel
            by_cases hlt2 : k2 < n2
            · have hix := hr2.at c2 k2 hlt2
              have hcell := hr2.cells k2 hlt2
              generalize s2.getD k2 ByteArray.empty = s at hcell
              go_wp2
              · go_ret
                exact ⟨⟨false, rfl⟩, rfl⟩
              · go_ret
                exact ⟨⟨false, rfl⟩, rfl⟩
              · go_roundg (n2 - (k2 + 1))
                case measure => omega
                case rel => exact ⟨rfl, k2 + 1, by omega, rfl, by first | rfl | go_num, _, rfl, by omega, by omega⟩
            · go_wp2
              all_goals (go_ret; first | exact ⟨⟨false, rfl⟩, rfl⟩ | exact ⟨⟨true, rfl⟩, rfl⟩)

end Go.Proofs.Qxb6615790aFmt
