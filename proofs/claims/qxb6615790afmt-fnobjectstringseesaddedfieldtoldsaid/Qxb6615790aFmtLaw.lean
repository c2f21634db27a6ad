import Derived.Test.Qxb6615790aFmtTail
import Derived.Deep.QuietTactic
import Derived.BigQuiet
namespace Go.Proofs.Qxb6615790aFmt
open Go.RowKit Go.Maps
open Go.Extern.Stop Go.Stop Go.Extern

/-- The copy that the law makes of a slice of strings, ahead of the walk. -/
theorem copied_row {w : World} {a : Option Addr} {n b o : Nat} {ss : List ByteArray} (h : StrRow w a n b o ss) (c : Nat) :
    ∃ w2, Sem.run Tryf.prog (Builtin.copy_ #[22, 22] 3 #[.slice (some ⟨w.heap.size, 0, none⟩) n n, .slice a n c]) (w.alloc (.cells (madeCells #[.string ⟨#[]⟩] n) 9)) = .ok (.int .i64 n) w2 ∧ StrRow w2 (some ⟨w.heap.size, 0, none⟩) n w.heap.size 0 ss ∧ Below w.heap.size w w2 := by
  have hB : Below w.heap.size w (w.alloc (.cells (madeCells #[.string ⟨#[]⟩] n) 9)) := (Below.refl _ _).alloc (Nat.le_refl _) _
  obtain ⟨w2, hrun, hrow, hgrow, _⟩ := (h.below hB).copy c w.heap.size n n (List.replicate n ⟨#[]⟩) (Nat.le_refl _) (by simp) (RowS.made w n)
  refine ⟨w2, hrun, ?_, hB.grown hgrow (by simp) (fun k hk => by cases hk; exact Nat.le_refl _)⟩
  rw [List.drop_eq_nil_of_le (by simp), List.append_nil] at hrow
  exact hrow.row h.long h.short h.sizes

set_option maxHeartbeats 2000000 in
set_option maxRecDepth 10000 in
theorem law_walk (F : Interp) (a0 a1 a2 : Option Addr) (n0 c0 b0 o0 n1 c1 b1 o1 n2 c2 b2 o2 : Nat) (s0 s1 s2 : List ByteArray) (path key nk nv : ByteArray) (ne : Bool) (w : World) (hF : F.answers w.tape)
    (hp : path.size ≤ 1048576) (hk : key.size ≤ 1048576) (hnk : nk.size ≤ 1048576) (hnv : nv.size ≤ 1048576) (hm0 : n0 ≤ 65536) (hm1 : n1 ≤ 65536) (hm2 : n2 ≤ 65536)
    (hr0 : StrRow w a0 n0 b0 o0 s0) (hr1 : StrRow w a1 n1 b1 o1 s1) (hr2 : StrRow w a2 n2 b2 o2 s2) :
    Calls Tryf.prog 3 #[.slice a0 n0 c0, .slice a1 n1 c1, .slice a2 n2 c2, .string path, .string key, .bool ne, .string nk, .string nv] w fun e w' => Yes w e w' := by
  go_enter Tryf.func3, Tryf.ntmps3
  go_wp2_with fail
  refine (bytes_any a0 a1 a2 n0 c0 b0 o0 n1 c1 b1 o1 n2 c2 b2 o2 s0 s1 s2 path key nk nv ne w hr0 hr1 hr2).mono ?_
  rintro e w ⟨⟨r, rfl⟩, rfl⟩
  cases r
  · go_wp2
    go_ret
    exact ⟨rfl, Below.refl _ _⟩
  go_wp2_with fail
  refine (fieldsFit_any _ a0 a1 a2 n0 c0 b0 o0 n1 c1 b1 o1 n2 c2 b2 o2 s0 s1 s2 w (by omega) (by omega) hr0 hr1 hr2).mono ?_
  rintro e w ⟨⟨r, rfl, hN⟩, rfl⟩
  cases r
  · go_wp2
    go_ret
    exact ⟨rfl, Below.refl _ _⟩
  obtain rfl : n1 = n0 := hN rfl
  clear hN
  go_wp2_with fail
  refine (validUTF8_any path w (by unfold maxLen; omega)).mono ?_
  rintro e w ⟨⟨r, rfl⟩, rfl⟩
  cases r
  · go_wp2
    go_ret
    exact ⟨rfl, Below.refl _ _⟩
  go_wp2_with fail
  refine (validUTF8_any nk w (by unfold maxLen; omega)).mono ?_
  rintro e w ⟨⟨r, rfl⟩, rfl⟩
  cases r
  · go_wp2
    go_ret
    exact ⟨rfl, Below.refl _ _⟩
  go_wp2_with fail
  refine (validUTF8_any nv w (by unfold maxLen; omega)).mono ?_
  rintro e w ⟨⟨r, rfl⟩, rfl⟩
  cases r
  · go_wp2
    go_ret
    exact ⟨rfl, Below.refl _ _⟩
  go_upto_if 104 with fail
  go_cut [0] (fun v0 wx => (∃ a b o c, v0 = .slice a n1 c ∧ StrRow wx a n1 b o s0) ∧ Below w.heap.size w wx)
  case first =>
    have hmk := run_make_row' (P := Tryf.prog) 22 9 (.string ⟨#[]⟩) 16 Tryf.underlying22 Tryf.info9 rfl .i64 .i64 n1 (by omega) (by omega)
    obtain ⟨w2, hcp, hnew, hB2⟩ := copied_row hr0 c0
    have HN : Hid _ := hnew
    have HB : Hid _ := hB2
    clear hnew hB2
    go_wp2
    · go_meet
      exact ⟨⟨_, _, _, _, rfl, HN⟩, HB⟩
    · go_meet
      exact ⟨⟨_, _, _, _, rfl, hr0⟩, Below.refl _ _⟩
  case rest =>
    obtain ⟨⟨a0', b0', o0', c0', rfl, hq0⟩, hB0⟩ := hcut
    have hq1 := hr1.below hB0
    have hq2 := hr2.below hB0
    clear hr0 hr1 hr2
    go_upto_if 113 with fail
    go_cut [1] (fun v1 wx => (∃ a b o c, v1 = .slice a n1 c ∧ StrRow wx a n1 b o s1) ∧ Below wc.heap.size wc wx)
    case first =>
      have hmk := run_make_row' (P := Tryf.prog) 22 9 (.string ⟨#[]⟩) 16 Tryf.underlying22 Tryf.info9 rfl .i64 .i64 n1 (by omega) (by omega)
      obtain ⟨w2, hcp, hnew, hB2⟩ := copied_row hq1 c1
      have HN : Hid _ := hnew
      have HB : Hid _ := hB2
      clear hnew hB2
      go_wp2
      · go_meet
        exact ⟨⟨_, _, _, _, rfl, HN⟩, HB⟩
      · go_meet
        exact ⟨⟨_, _, _, _, rfl, hq1⟩, Below.refl _ _⟩
    case rest =>
      obtain ⟨⟨a1', b1', o1', c1', rfl, hs1⟩, hB1⟩ := hcut
      have hs0 := hq0.below hB1
      have hs2 := hq2.below hB1
      have hB01 := hB0.trans (hB1.mono hB0.size)
      clear hq0 hq1 hq2 hB0 hB1
      go_upto_if 122 with fail
      go_cut [2] (fun v2 wx => (∃ a b o c, v2 = .slice a n2 c ∧ StrRow wx a n2 b o s2) ∧ Below wc.heap.size wc wx)
      case first =>
        have hmk := run_make_row' (P := Tryf.prog) 22 9 (.string ⟨#[]⟩) 16 Tryf.underlying22 Tryf.info9 rfl .i64 .i64 n2 (by omega) (by omega)
        obtain ⟨w2, hcp, hnew, hB2⟩ := copied_row hs2 c2
        have HN : Hid _ := hnew
        have HB : Hid _ := hB2
        clear hnew hB2
        go_wp2
        · go_meet
          exact ⟨⟨_, _, _, _, rfl, HN⟩, HB⟩
        · go_meet
          exact ⟨⟨_, _, _, _, rfl, hs2⟩, Below.refl _ _⟩
      case rest =>
        obtain ⟨⟨a2', b2', o2', c2', rfl, ht2⟩, hB2⟩ := hcut
        have ht0 := hs0.below hB2
        have ht1 := hs1.below hB2
        have hB := hB01.trans (hB2.mono hB01.size)
        clear hs0 hs1 hs2 hB01 hB2
        rename_i hK
        apply hK
        have hF' : F.answers wc.tape := by rw [hB.tape]; exact hF
        exact tail_walk F w a0' a1' a2' n1 c0' b0' o0' c1' b1' o1' n2 c2' b2' o2' s0 s1 s2 path key nk nv ne wc hF' hk hnk hnv hm1 ht0 ht1 ht2 hB _ _ _ _ _ _ _ _ _ _ _ _ _ _ _ _ _ _ _ _ _ _ _ _ _ _ _ _ _ _ _ _ _ _ _ _ _ _ _ _ _ _ _ _ _ _ _ _ _ _ _ _ _ _ _ _ _ _ _ _ _ _ _ _ _ _ _ _ _ _ _ _ _ _ _ _ _ _ _ _ _ _ _ _ _ _ _ _ _ _ _ _ _ _ _ _ _ _ _ _ _ _ _ _ _ _ _ _ _ _ _ _ _ _ _ _ _ _ _ _ _ _ _ _ _ _ _ _ _ _ _ _ _ _ _ _ _ _ _ _ _ _ _ _ _ _ _ _ _ _ _ _ _ _ _ _ _ _ _ _ _ _ _ _ _ _ _ _ _ _ _ _ _ _ _ _ _ _ _ _ _ _ _ _ _ _ _ _ _ _ _ _ _ _ _ _ _ _ _ _ _ _ _ _ _ _

set_option maxHeartbeats 2000000 in
set_option maxRecDepth 10000 in
theorem law_big (a0 a1 a2 : Option Addr) (n0 c0 b0 o0 n1 c1 b1 o1 n2 c2 b2 o2 : Nat) (s0 s1 s2 : List ByteArray) (path key nk nv : ByteArray) (ne : Bool) (w : World)
    (hp : path.size ≤ maxLen) (hk : key.size ≤ maxLen) (hnk : nk.size ≤ maxLen) (hnv : nv.size ≤ maxLen)
    (hbig : ¬ (path.size ≤ 1048576 ∧ key.size ≤ 1048576 ∧ nk.size ≤ 1048576 ∧ nv.size ≤ 1048576 ∧ n0 ≤ 65536 ∧ n1 ≤ 65536 ∧ n2 ≤ 65536))
    (hr0 : StrRow w a0 n0 b0 o0 s0) (hr1 : StrRow w a1 n1 b1 o1 s1) (hr2 : StrRow w a2 n2 b2 o2 s2) :
    Calls Tryf.prog 3 #[.slice a0 n0 c0, .slice a1 n1 c1, .slice a2 n2 c2, .string path, .string key, .bool ne, .string nk, .string nv] w fun e w' => Yes w e w' := by
  have hm0 := hr0.short
  have hm1 := hr1.short
  have hm2 := hr2.short
  unfold maxLen at hp hk hnk hnv
  have HB := Hid.mk hbig
  clear hbig
  go_enter Tryf.func3, Tryf.ntmps3
  go_wp2_with fail
  refine (bytes_any a0 a1 a2 n0 c0 b0 o0 n1 c1 b1 o1 n2 c2 b2 o2 s0 s1 s2 path key nk nv ne w hr0 hr1 hr2).mono ?_
  rintro e w ⟨⟨r, rfl⟩, rfl⟩
  cases r
  · go_wp2
    go_ret
    exact ⟨rfl, Below.refl _ _⟩
  · go_wp2_with fail
    all_goals first
      | (exfalso; have hb := HB.out; apply hb; refine ⟨?_, ?_, ?_, ?_, ?_, ?_, ?_⟩ <;> omega)
      | (go_ret; exact ⟨rfl, Below.refl _ _⟩)

theorem law_any (F : Interp) (a0 a1 a2 : Option Addr) (n0 c0 b0 o0 n1 c1 b1 o1 n2 c2 b2 o2 : Nat) (s0 s1 s2 : List ByteArray) (path key nk nv : ByteArray) (ne : Bool) (w : World) (hF : F.answers w.tape)
    (hp : path.size ≤ maxLen) (hk : key.size ≤ maxLen) (hnk : nk.size ≤ maxLen) (hnv : nv.size ≤ maxLen)
    (hr0 : StrRow w a0 n0 b0 o0 s0) (hr1 : StrRow w a1 n1 b1 o1 s1) (hr2 : StrRow w a2 n2 b2 o2 s2) :
    Calls Tryf.prog 3 #[.slice a0 n0 c0, .slice a1 n1 c1, .slice a2 n2 c2, .string path, .string key, .bool ne, .string nk, .string nv] w fun e w' => Yes w e w' := by
  by_cases h : path.size ≤ 1048576 ∧ key.size ≤ 1048576 ∧ nk.size ≤ 1048576 ∧ nv.size ≤ 1048576 ∧ n0 ≤ 65536 ∧ n1 ≤ 65536 ∧ n2 ≤ 65536
  · obtain ⟨h1, h2, h3, h4, h5, h6, h7⟩ := h
    exact law_walk F a0 a1 a2 n0 c0 b0 o0 n1 c1 b1 o1 n2 c2 b2 o2 s0 s1 s2 path key nk nv ne w hF h1 h2 h3 h4 h5 h6 h7 hr0 hr1 hr2
  · exact law_big a0 a1 a2 n0 c0 b0 o0 n1 c1 b1 o1 n2 c2 b2 o2 s0 s1 s2 path key nk nv ne w hp hk hnk hnv h hr0 hr1 hr2
end Go.Proofs.Qxb6615790aFmt
