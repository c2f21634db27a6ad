import Derived.Test.Qxb6615958aSet
namespace Go.Proofs.Qxb6615958a
open Go.RowKit

/-- What the walks are told of a slice of bytes. -/
structure ByteRow (w : World) (a : Option Addr) (len b off : Nat) (bs : List Nat) : Prop where
  here : 0 < len → a = some ⟨b, off, none⟩
  cells : ∀ k, k < len → w.cell? ⟨b, off + k, none⟩ = some (.int .u8 ((bs.getD k 0 : Nat) : Int))
  long : bs.length = len
  small : Small bs

theorem ByteRow.at {w : World} {a : Option Addr} {len b off : Nat} {bs : List Nat} (h : ByteRow w a len b off bs) (cap k : Nat) (hk : k < len) (w' : World) :
    (Instr.indexAt 22 (.slice a len cap) (.int .i64 k)).run Try.prog w' = .ok (.pointer (some ⟨b, off + k, none⟩)) w' := by
  rw [h.here (by omega)]
  go_simp

theorem ByteRow.below {w w' : World} {a : Option Addr} {len b off : Nat} {bs : List Nat} (h : ByteRow w a len b off bs) (hb : Below w.heap.size w w') : ByteRow w' a len b off bs :=
  ⟨h.here, fun k hk => (hb.cell (p := ⟨b, off + k, none⟩) (lt_of_cell (h.cells k hk))).trans (h.cells k hk), h.long, h.small⟩

/-- The words while they are laid: the first k of n are there. -/
structure WordC (w : World) (g n N k : Nat) : Prop where
  cells : ∀ j, j < n → w.cell? ⟨g, j, none⟩ = some (.int .u64 (if j < k then (wd N j : Nat) else 0 : Nat))
  free : ∀ o, w.frozen? ⟨g, o, none⟩ = false

theorem made_at (n i : Nat) (h : i < n) (z : Array Value) : (madeCells z n)[i]? = some (z[i % z.size]!) := by
  simp [madeCells, h]
theorem cell_same {w : World} {a : Addr} {u v : Value} (h : w.cell? a = some u) : (w.setCell a v).cell? a = some v := by simp [World.cell?_setCell_same, h]
theorem cell_other {w : World} {g i j : Nat} {v : Value} (h : i ≠ j) : (w.setCell ⟨g, i, none⟩ v).cell? ⟨g, j, none⟩ = w.cell? ⟨g, j, none⟩ := by
  apply World.cell?_setCell_other
  intro e
  apply h
  simp at e

theorem WordC.made (w : World) (n c N : Nat) (h : n ≤ c) : WordC (w.alloc (.cells (madeCells #[.int .u64 0] c) 51)) w.heap.size n N 0 := by
  refine ⟨fun j hj => ?_, fun o => by go_simp⟩
  rw [World.cell?_alloc_at _ _ _ _ rfl, made_at _ _ (by omega)]
  simp [Nat.mod_one]

theorem WordC.step {w : World} {g n N k : Nat} (h : WordC w g n N k) (hk : k < n) (x : Nat) (hx : wd N k = x) : WordC (w.setCell ⟨g, k, none⟩ (.int .u64 (x : Int))) g n N (k + 1) := by
  refine ⟨fun j hj => ?_, fun o => by rw [World.frozen?_setCell]; exact h.free o⟩
  by_cases e : j = k
  · subst e
    rw [cell_same (h.cells j hj), if_pos (by omega), hx]
  · rw [cell_other (by omega), h.cells j hj]
    by_cases h1 : j < k
    · rw [if_pos h1, if_pos (by omega)]
    · rw [if_neg h1, if_neg (by omega)]

theorem WordC.kept {w w' : World} {g n N k : Nat} (h : WordC w g n N k) (hlt : g < w.heap.size) (hb : Below w.heap.size w w') : WordC w' g n N k :=
  ⟨fun j hj => (hb.cell (p := ⟨g, j, none⟩) hlt).trans (h.cells j hj), fun o => (hb.frozen (p := ⟨g, o, none⟩) hlt).trans (h.free o)⟩

/-- one byte more of the top word -/
theorem or_step (P t x : Nat) (ht : t ≤ 7) (hx : x < 256) (hP : P / 2 ^ (8 * t) % 256 = x) :
    bits .or .u64 ((P : Int) % 2 ^ (8 * t)) (IntKind.u64.wrap (IntKind.u64.wrap (x : Int) * 2 ^ (8 * t))) = ((P % 2 ^ (8 * (t + 1)) : Nat) : Int) := by
  have hp : (2 : Nat) ^ (8 * t) ≤ 2 ^ 56 := Nat.pow_le_pow_right (by omega) (by omega)
  have hp' : (2 : Nat) ^ (8 * t) ≤ 72057594037927936 := by simpa using hp
  have hpos : 0 < (2 : Nat) ^ (8 * t) := Nat.two_pow_pos _
  have e1 : IntKind.u64.wrap (x : Int) = (x : Int) := u64_wrap_id _ (by omega) (by omega)
  rw [e1]
  have hm : x * 2 ^ (8 * t) < 18446744073709551616 := by
    have : x * 2 ^ (8 * t) ≤ 255 * 72057594037927936 := Nat.mul_le_mul (by omega) hp'
    omega
  have e2 : (x : Int) * 2 ^ (8 * t) = ((x * 2 ^ (8 * t) : Nat) : Int) := by simp
  have e3 : (P : Int) % 2 ^ (8 * t) = ((P % 2 ^ (8 * t) : Nat) : Int) := by simp
  have hlt : P % 2 ^ (8 * t) < 2 ^ (8 * t) := Nat.mod_lt _ hpos
  rw [e2, e3, u64_wrap_id _ (by omega) (by omega), u64_or_nat _ _ (by omega) hm]
  congr 1
  rw [Nat.or_comm, nat_join (8 * t) _ _ (Nat.mul_mod_left _ _) hlt, Nat.mul_add, Nat.pow_add, show (2 : Nat) ^ (8 * 1) = 256 from rfl, Nat.mod_mul, hP, Nat.mul_comm]
  omega

theorem byte_of {bs : List Nat} (h : Small bs) (r j t : Nat) (hj : j + 1 + t = r) : pre bs r / 2 ^ (8 * t) % 256 = bs.getD j 0 := by
  rw [pre_div h t r (by omega), show r - t = j + 1 from by omega, pre_succ]
  have := h j
  omega

theorem WordC.all {w : World} {g n N : Nat} (h : WordC w g n N n) (k : Nat) (hk : k < n) : w.cell? ⟨g, 0 + k, none⟩ = some (.int .u64 (wd N k : Nat)) := by
  rw [Nat.zero_add, h.cells k hk, if_pos hk]

set_option maxHeartbeats 2000000 in
theorem setBytes_some (b off n c : Nat) (bs : List Nat) (w : World) (h : ByteRow w (some ⟨b, off, none⟩) n b off bs) (hn1 : 1 ≤ n) (hn : n ≤ 2000000) (hc : n ≤ c) :
    Calls Try.prog 19 #[.slice none 0 0, .slice (some ⟨b, off, none⟩) n c] w fun e w' => (∃ a m cc bb oo, e = .returned (.slice a m cc) ∧ NatAt w' a m bb oo (num bs) ∧ (0 < m → w.heap.size ≤ bb)) ∧ Below w.heap.size w w' := by
  have hl := h.long
  have hsm := h.small
  go_enter Try.func19, Try.ntmps19
  go_wp2_with fail
  obtain ⟨nw, hnw⟩ : ∃ nw : Nat, ((n : Int) + 8 - 1) / 8 = (nw : Int) := ⟨(n + 7) / 8, by omega⟩
  have hw1 : n ≤ 8 * nw := by omega
  have hw2 : 8 * nw < n + 8 := by omega
  rw [hnw]
  clear hnw
  refine (make_some nw (by omega) (by omega) w).mono ?_
  rintro e w1 ⟨cc, hcc, hcc2, rfl, rfl⟩
  have hst : WordC (w.alloc (.cells (madeCells #[.int .u64 0] cc) 51)) w.heap.size nw (num bs) 0 := WordC.made w nw cc (num bs) hcc
  have hB0 : Below w.heap.size w (w.alloc (.cells (madeCells #[.int .u64 0] cc) 51)) := (Below.refl _ _).alloc (Nat.le_refl _) _
  have hz0 : w.heap.size < (w.alloc (.cells (madeCells #[.int .u64 0] cc) 51)).heap.size := by simp
  revert hst hB0 hz0
  generalize w.alloc (.cells (madeCells #[.int .u64 0] cc) 51) = w1
  intro hst hB0 hz0
  have HST := Hid.mk hst
  have HB0 := Hid.mk hB0
  clear hst hB0
  go_wp2_with fail
  go_loopg [5, 6] n (fun y i k wr => ∃ kn ii : Nat, ii + 8 * kn = n ∧ y = ii ∧ i = .int .i64 ii ∧ k = .int .i64 kn ∧ WordC wr w.heap.size nw (num bs) kn ∧ Below w.heap.size w wr ∧ w.heap.size < wr.heap.size)
  case atStart => exact ⟨0, n, by omega, rfl, rfl, rfl, HST.out, HB0.out, hz0⟩
  case round =>
    clear HST HB0 hz0
    obtain ⟨k, i, hik, rfl, rfl, rfl, hx, hB, hz⟩ := hrel
    obtain ⟨r, rfl⟩ : ∃ r, r = gk := ⟨gk, rfl⟩
    have HIK := Hid.mk hik
    have hki : 8 * k ≤ n := by omega
    have hin : r ≤ n := by omega
    by_cases h8 : 8 ≤ r
    · have hq := h.below hB
      have hkn : k < nw := by omega
      have e0 := hx.cells k hkn
      have z0 := hx.free k
      rw [if_neg (Nat.lt_irrefl k)] at e0
      have HX := Hid.mk hx
      have HB := Hid.mk hB
      have HQ := Hid.mk hq
      have HH := Hid.mk h
      clear hx hB hq h hik
      go_wp2_with fail
      have hV : wd (num bs) k = pre bs r % 2 ^ 64 := by
        rw [wd_pre hsm k (by omega), hl, show n - 8 * k = r from by have := HIK.out; omega]
      refine (word_any b (off + (r - 8)) (r - (r - 8)) (c - (r - 8)) (bs.getD (r - 8) 0) (bs.getD (r - 7) 0) (bs.getD (r - 6) 0) (bs.getD (r - 5) 0) (bs.getD (r - 4) 0) (bs.getD (r - 3) 0) (bs.getD (r - 2) 0) (bs.getD (r - 1) 0) wr (by omega)
        (by have := HQ.out.cells (r - 8) (by omega); rwa [show off + (r - 8) = off + (r - 8) from by omega] at this)
        (by have := HQ.out.cells (r - 7) (by omega); rwa [show off + (r - 7) = off + (r - 8) + 1 from by omega] at this)
        (by have := HQ.out.cells (r - 6) (by omega); rwa [show off + (r - 6) = off + (r - 8) + 2 from by omega] at this)
        (by have := HQ.out.cells (r - 5) (by omega); rwa [show off + (r - 5) = off + (r - 8) + 3 from by omega] at this)
        (by have := HQ.out.cells (r - 4) (by omega); rwa [show off + (r - 4) = off + (r - 8) + 4 from by omega] at this)
        (by have := HQ.out.cells (r - 3) (by omega); rwa [show off + (r - 3) = off + (r - 8) + 5 from by omega] at this)
        (by have := HQ.out.cells (r - 2) (by omega); rwa [show off + (r - 2) = off + (r - 8) + 6 from by omega] at this)
        (by have := HQ.out.cells (r - 1) (by omega); rwa [show off + (r - 1) = off + (r - 8) + 7 from by omega] at this)
        (hsm _) (hsm _) (hsm _) (hsm _) (hsm _) (hsm _) (hsm _) (hsm _) (wd (num bs) k) (by rw [hV, word_eq hsm r h8])).mono ?_
      rintro e w2 ⟨rfl, hB2⟩
      have e1 := (hB2.cell (p := ⟨w.heap.size, k, none⟩) hz).trans e0
      have z1 := (hB2.frozen (p := ⟨w.heap.size, k, none⟩) hz).trans z0
      have HX2 := Hid.mk (HX.out.kept hz hB2)
      have HB2 := Hid.mk (HB.out.trans (hB2.mono HB.out.size))
      have HZ2 := Hid.mk (Nat.lt_of_lt_of_le hz hB2.size)
      clear hV e0 z0 hB2 hz HX HB HQ HH
      generalize hwd : wd (num bs) k = x
      have HWD := Hid.mk hwd
      clear hwd
      go_wp2
      go_roundg (r - 8)
      case measure => omega
      case rel => exact ⟨k + 1, r - 8, by have := HIK.out; omega, rfl, by first | rfl | go_num, by first | rfl | go_num, HX2.out.step hkn x HWD.out, HB2.out.setCell (Nat.le_refl _) _, by have := HZ2.out; simp [World.setCell]; omega⟩
    · by_cases h0 : r = 0
      · subst h0
        have hkn : k = nw := by omega
        subst hkn
        have hall := num_small hsm k (by omega)
        have HA := Hid.mk hall
        have HX := Hid.mk hx
        have HB := Hid.mk hB
        clear hall hx hB h hik HIK hsm hl
        go_wp2_with fail
        refine (norm_any (some ⟨w.heap.size, 0, none⟩) k cc w.heap.size 0 (num bs) _ hcc (by omega) (fun _ => rfl) HX.out.all HA.out).mono ?_
        rintro e w3 ⟨⟨m, rfl, hm⟩, rfl⟩
        have HM := Hid.mk hm
        clear hm HX HA
        go_wp2
        go_ret
        exact ⟨⟨_, _, _, _, _, rfl, HM.out, fun _ => Nat.le_refl _⟩, HB.out⟩
      · have hkw : k + 1 = nw := by omega
        have HKW := Hid.mk hkw
        have HX := Hid.mk hx
        have HB := Hid.mk hB
        have HZ := Hid.mk hz
        have hq := h.below hB
        have HQ := Hid.mk hq
        clear hkw hx hB hz hq h hik
        go_wp2_with fail
        go_loopg [5, 7, 8] r (fun y i d s wx => wx = wr ∧ ∃ j t : Nat, j + t = r ∧ y = j ∧ i = .int .i64 j ∧ d = .int .u64 ((pre bs r % 2 ^ (8 * t) : Nat) : Int) ∧ s = .int .u64 ((8 * t : Nat) : Int))
        case atStart => exact ⟨rfl, r, 0, rfl, rfl, rfl, by simp [Nat.mod_one], rfl⟩
        case round =>
          obtain ⟨rfl, j, t, hjt, rfl, rfl, rfl, rfl⟩ := hrel
          have HJT := Hid.mk hjt
          have hjr : gk ≤ r := by omega
          have htr : t ≤ r := by omega
          cases gk with
          | zero =>
            have htr' : t = r := by omega
            have hd : pre bs r % 2 ^ (8 * t) = wd (num bs) k := by
              rw [htr', wd_pre hsm k (by omega), hl, show n - 8 * k = r from by have := HIK.out; omega]
              have h1 := pre_lt hsm r
              rw [Nat.mod_eq_of_lt h1, Nat.mod_eq_of_lt]
              exact Nat.lt_of_lt_of_le h1 (Nat.pow_le_pow_right (by omega) (by omega))
            rw [hd]
            have hkw := HKW.out
            have e0 := HX.out.cells (nw - 1) (by omega)
            have z0 := HX.out.free (nw - 1)
            rw [if_neg (by omega)] at e0
            have hnw0 : 1 ≤ nw := by omega
            have hall := num_small hsm nw (by omega)
            have HA := Hid.mk hall
            clear hall hd htr' hkw hjt HJT
            generalize hwd : wd (num bs) k = x
            have HWD := Hid.mk hwd
            clear hwd hsm hl
            go_wp2_with fail
            have hst : WordC (wr.setCell ⟨w.heap.size, nw - 1, none⟩ (.int .u64 (x : Int))) w.heap.size nw (num bs) nw := by
              have hkw := HKW.out
              rw [show nw - 1 = k from by omega]
              have := HX.out.step (k := k) (by omega) x HWD.out
              rw [hkw] at this
              exact this
            have HST := Hid.mk hst
            clear hst e0 z0
            refine (norm_any (some ⟨w.heap.size, 0, none⟩) nw cc w.heap.size 0 (num bs) _ hcc (by omega) (fun _ => rfl) HST.out.all HA.out).mono ?_
            rintro e w3 ⟨⟨m, rfl, hm⟩, rfl⟩
            have HM := Hid.mk hm
            clear hm HST HA
            go_wp2
            go_ret
            exact ⟨⟨_, _, _, _, _, rfl, HM.out, fun _ => Nat.le_refl _⟩, HB.out.setCell (Nat.le_refl _) _⟩
          | succ j =>
            have hix := HQ.out.at c j (by omega)
            have hcell := HQ.out.cells j (by omega)
            have hval := or_step (pre bs r) t (bs.getD j 0) (by omega) (hsm j) (byte_of hsm r j t (by omega))
            have HV := Hid.mk hval
            clear hval hjt
            generalize bs.getD j 0 = x at hcell HV
            go_wp2
            go_roundg j
            case measure => omega
            case rel => exact ⟨rfl, j, t + 1, by have := HJT.out; omega, rfl, by first | rfl | go_num, congrArg (Value.int .u64) HV.out, by first | rfl | go_num⟩

set_option maxHeartbeats 400000 in
theorem setBytes_none (a : Option Addr) (c : Nat) (w : World) :
    Calls Try.prog 19 #[.slice none 0 0, .slice a 0 c] w fun e w' => e = .returned (.slice none 0 0) ∧ w' = w := by
  go_enter Try.func19, Try.ntmps19
  go_wp2_with fail
  refine (make_none w).mono ?_
  rintro e w1 ⟨rfl, rfl⟩
  go_wp2_with fail
  refine wp_loop_rounds 1 ?_
  rw [rounds_succ]
  go_wp2_with fail
  refine (norm_any none 0 0 0 0 0 _ (Nat.le_refl _) (by omega) (fun h => by omega) (fun k hk => by omega) (by simp)).mono ?_
  rintro e w3 ⟨⟨m, rfl, hm⟩, rfl⟩
  have hm0 : m = 0 := by
    rcases Nat.eq_zero_or_pos m with h | h
    · exact h
    · have := hm.here h
      cases this
  subst hm0
  clear hm
  go_wp2
  go_ret
  exact ⟨rfl, rfl⟩

theorem setBytes_any (a : Option Addr) (n c b off : Nat) (bs : List Nat) (w : World) (h : ByteRow w a n b off bs) (hn : n ≤ 2000000) (hc : n ≤ c) :
    Calls Try.prog 19 #[.slice none 0 0, .slice a n c] w fun e w' => (∃ a m cc bb oo, e = .returned (.slice a m cc) ∧ NatAt w' a m bb oo (num bs) ∧ (0 < m → w.heap.size ≤ bb)) ∧ Below w.heap.size w w' := by
  by_cases h0 : n = 0
  · subst h0
    have hb : bs = [] := List.eq_nil_of_length_eq_zero h.long
    subst hb
    exact (setBytes_none a c w).mono fun e w' ⟨he, hw⟩ => by
      subst hw
      exact ⟨⟨_, _, _, 0, 0, he, ⟨fun h => by omega, fun k hk => by omega, by omega, rfl, fun h => by omega⟩, fun h => by omega⟩, Below.refl _ _⟩
  · have ha := h.here (by omega)
    subst ha
    exact setBytes_some b off n c bs w h (by omega) hn hc

theorem NatAt.setCell {w : World} {A : Option Addr} {m b off N : Nat} (h : NatAt w A m b off N) {a : Addr} (ha : 0 < m → b ≠ a.block) (v : Value) : NatAt (w.setCell a v) A m b off N :=
  ⟨h.here, fun k hk => (World.cell?_of_block (w := w) (a := ⟨b, off + k, none⟩) (Below.heap_setCell w a v b (ha (by omega)))).trans (h.cells k hk), h.short, h.all, h.top⟩

set_option maxHeartbeats 1000000 in
/-- (*Int).SetBytes on a new Int. -/
theorem intSetBytes_any (zb : Nat) (a : Option Addr) (n c b off : Nat) (bs : List Nat) (w : World) (h : ByteRow w a n b off bs) (hn : n ≤ 2000000) (hc : n ≤ c)
    (z0 : w.cell? ⟨zb, 0, none⟩ = some (.bool false)) (z1 : w.cell? ⟨zb, 1, none⟩ = some (.slice none 0 0)) (zf : ∀ o, w.frozen? ⟨zb, o, none⟩ = false) :
    Calls Try.prog 11 #[.pointer (some ⟨zb, 0, none⟩), .slice a n c] w fun e w' => e = .returned (.pointer (some ⟨zb, 0, none⟩)) ∧
      (∃ a m cc bb oo, w'.cell? ⟨zb, 1, none⟩ = some (.slice a m cc) ∧ NatAt w' a m bb oo (num bs)) ∧ w.heap.size ≤ w'.heap.size ∧ Below zb w w' := by
  have hlt := lt_of_cell z0
  go_enter Try.func11, Try.ntmps11
  go_wp2_with fail
  refine (setBytes_any a n c b off bs w h hn hc).mono ?_
  rintro e w1 ⟨⟨a', m, cc, bb, oo, rfl, hN, hbb⟩, hB⟩
  have y0 := (hB.cell (p := ⟨zb, 0, none⟩) hlt).trans z0
  have y1 := (hB.cell (p := ⟨zb, 1, none⟩) hlt).trans z1
  have yf : ∀ o, w1.frozen? ⟨zb, o, none⟩ = false := fun o => (hB.frozen (p := ⟨zb, o, none⟩) hlt).trans (zf o)
  have HN := Hid.mk hN
  have HB := Hid.mk hB
  clear z0 z1 zf hN hB h
  go_wp2
  go_ret
  have hne : 0 < m → bb ≠ zb := fun h => by have := hbb h; omega
  refine ⟨rfl, ⟨a', m, cc, bb, oo, ?_, (HN.out.setCell (a := ⟨zb, 1, none⟩) hne _).setCell (a := ⟨zb, 0, none⟩) hne _⟩, ?_, ((HB.out.mono (Nat.le_of_lt hlt)).setCell (Nat.le_refl _) _).setCell (Nat.le_refl _) _⟩
  · rw [cell_other (by omega), cell_same y1]
  · have := HB.out.size
    simpa [World.setCell] using this

end Go.Proofs.Qxb6615958a
