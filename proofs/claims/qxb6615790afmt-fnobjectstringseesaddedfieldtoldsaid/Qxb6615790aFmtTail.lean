import Derived.Test.Qxb6615790aFmtCopy
import Derived.Deep.QuietTactic
import Derived.BigQuiet
namespace Go.Proofs.Qxb6615790aFmt
open Go.RowKit Go.Maps
open Go.Extern.Stop Go.Stop Go.Extern

/-- The code from region n on. -/
def tailAt (n : Nat) : Code → Option Code
  | .seq (.region m ops d) b => if m = n then some (.seq (.region m ops d) b) else tailAt n b
  | .seq a b => match tailAt n a with
    | some c => some c
    | none => tailAt n b
  | _ => none

theorem ownsMap_below {w w' : World} {B n : Nat} {D : DataW Unit} (h : w.ownsMap Tryf.prog 9 anyElem B n D) (hb : Below w.heap.size w w') : w'.ownsMap Tryf.prog 9 anyElem B n D := by
  have hlt := h.lt
  obtain ⟨es, clock, h1, r⟩ := h
  exact ⟨es, clock, (hb.block B hlt).trans h1, r⟩

theorem Dk_snoc (D : DataW Unit) (s0 s1 : List ByteArray) (x y : ByteArray) (n : Nat) (h0 : n ≤ s0.length) (h1 : n ≤ s1.length) : Dk D (s0 ++ [x]) (s1 ++ [y]) n = Dk D s0 s1 n := by
  induction n with
  | zero => rfl
  | succ n ih =>
    have e0 : (s0 ++ [x]).getD n ByteArray.empty = s0.getD n ByteArray.empty := by
      simp only [List.getD_eq_getElem?_getD, List.getElem?_append_left (show n < s0.length by omega)]
    have e1 : (s1 ++ [y]).getD n ByteArray.empty = s1.getD n ByteArray.empty := by
      simp only [List.getD_eq_getElem?_getD, List.getElem?_append_left (show n < s1.length by omega)]
    simp only [Dk]
    rw [ih (by omega) (by omega), e0, e1]

theorem Dk_last (D : DataW Unit) (s0 s1 : List ByteArray) (x y : ByteArray) (n : Nat) (h0 : s0.length = n) (h1 : s1.length = n) : Dk D (s0 ++ [x]) (s1 ++ [y]) (n + 1) = (Dk D s0 s1 n).put (litOf x) (.lit (.string y.data.toList)) := by
  have e0 : (s0 ++ [x]).getD n ByteArray.empty = x := by simp [List.getD_eq_getElem?_getD, ← h0]
  have e1 : (s1 ++ [y]).getD n ByteArray.empty = y := by simp [List.getD_eq_getElem?_getD, ← h1]
  simp only [Dk]
  rw [Dk_snoc D s0 s1 x y n (by omega) (by omega), e0, e1]

theorem isMap_Dn (s2 : List ByteArray) : ∀ n, IsMap (Dn s2 n)
  | 0 => isMap_empty
  | n + 1 => (isMap_Dn s2 n).put _ _
theorem isMap_Dk (D : DataW Unit) (h : IsMap D) (s0 s1 : List ByteArray) : ∀ n, IsMap (Dk D s0 s1 n)
  | 0 => h
  | n + 1 => (isMap_Dk D h s0 s1 n).put _ _

theorem strOf_same (D : DataW Unit) (h : IsMap D) (x y : ByteArray) (ne : Bool) : strOf (D.put (litOf x) (.lit (.string y.data.toList))) (litOf x) ne = if ne && y.data.toList.isEmpty then none else some y.data.toList := by
  have hk : WideAt.IsKeyLit (litOf x) := trivial
  simp only [strOf, has_put_same h hk, atKey_put_same h hk]
  simp

theorem strOf_other (D : DataW Unit) (x z y : ByteArray) (ne : Bool) (hne : litOf z ≠ litOf x) : strOf (D.put (litOf x) (.lit (.string y.data.toList))) (litOf z) ne = strOf D (litOf z) ne := by
  simp only [strOf, has_put_other hne, atKey_put_other hne]

theorem Hid.mk {p : Prop} (h : p) : Hid p := h

theorem snoc_sizes {ss : List ByteArray} (h : ∀ s ∈ ss, s.size ≤ maxLen) {x : ByteArray} (hx : x.size ≤ 1048576) : ∀ s ∈ ss ++ [x], s.size ≤ maxLen := by
  intro s hs
  rcases List.mem_append.1 hs with h1 | h1
  · exact h s h1
  · rw [List.mem_singleton.1 h1]; unfold maxLen; omega

/-- Both rows made, filled and lengthened: what the two copies come to. -/
theorem mid (w1 : World) (O : Obj) {a0 a1 : Option Addr} {n b0 o0 b1 o1 : Nat} {s0 s1 : List ByteArray} (h0 : StrRow w1 a0 n b0 o0 s0) (h1 : StrRow w1 a1 n b1 o1 s1) (c0 c1 : Nat) :
    ∃ w2 w3, Sem.run Tryf.prog (Builtin.copy_ #[22, 22] 3 #[.slice (some ⟨w1.heap.size + 1, 0, none⟩) (n + 1) (n + 1), .slice a0 n c0])
          (((w1.alloc O).alloc (.cells (madeCells #[.string ⟨#[]⟩] (n + 1)) 9)).alloc (.cells (madeCells #[.string ⟨#[]⟩] (n + 1)) 9)) = .ok (.int .i64 n) w2 ∧
      Sem.run Tryf.prog (Builtin.copy_ #[22, 22] 3 #[.slice (some ⟨w1.heap.size + 1 + 1, 0, none⟩) (n + 1) (n + 1), .slice a1 n c1]) w2 = .ok (.int .i64 n) w3 ∧
      RowS w3 (w1.heap.size + 1) (s0 ++ [⟨#[]⟩]) ∧ RowS w3 (w1.heap.size + 1 + 1) (s1 ++ [⟨#[]⟩]) ∧ Below (w1.heap.size + 1) (w1.alloc O) w3 := by
  have hA : Below (w1.heap.size + 1) (w1.alloc O) (((w1.alloc O).alloc (.cells (madeCells #[.string ⟨#[]⟩] (n + 1)) 9)).alloc (.cells (madeCells #[.string ⟨#[]⟩] (n + 1)) 9)) :=
    ((Below.refl _ _).alloc (by simp) _).alloc (by simp) _
  have hA' : Below w1.heap.size w1 (((w1.alloc O).alloc (.cells (madeCells #[.string ⟨#[]⟩] (n + 1)) 9)).alloc (.cells (madeCells #[.string ⟨#[]⟩] (n + 1)) 9)) :=
    ((Below.refl _ _).alloc (Nat.le_refl _) _).trans (hA.mono (Nat.le_succ _))
  have hg1 : RowS (((w1.alloc O).alloc (.cells (madeCells #[.string ⟨#[]⟩] (n + 1)) 9)).alloc (.cells (madeCells #[.string ⟨#[]⟩] (n + 1)) 9)) (w1.heap.size + 1) (List.replicate (n + 1) ⟨#[]⟩) := by
    have := RowS.made (w1.alloc O) (n + 1)
    simp only [World.size_alloc] at this
    exact this.kept (Below.heap_alloc _ _ _ (by simp))
  have hg2 : RowS (((w1.alloc O).alloc (.cells (madeCells #[.string ⟨#[]⟩] (n + 1)) 9)).alloc (.cells (madeCells #[.string ⟨#[]⟩] (n + 1)) 9)) (w1.heap.size + 1 + 1) (List.replicate (n + 1) ⟨#[]⟩) := by
    have := RowS.made ((w1.alloc O).alloc (.cells (madeCells #[.string ⟨#[]⟩] (n + 1)) 9)) (n + 1)
    simpa only [World.size_alloc] using this
  have hsz : (((w1.alloc O).alloc (.cells (madeCells #[.string ⟨#[]⟩] (n + 1)) 9)).alloc (.cells (madeCells #[.string ⟨#[]⟩] (n + 1)) 9)).heap.size = w1.heap.size + 3 := by simp
  revert hA hA' hg1 hg2 hsz
  generalize (((w1.alloc O).alloc (.cells (madeCells #[.string ⟨#[]⟩] (n + 1)) 9)).alloc (.cells (madeCells #[.string ⟨#[]⟩] (n + 1)) 9)) = wC
  intro hA hA' hg1 hg2 hsz
  have hd : ∀ ss : List ByteArray, ss ++ (List.replicate (n + 1) (⟨#[]⟩ : ByteArray)).drop n = ss ++ [⟨#[]⟩] := fun ss => by
    rw [List.drop_replicate, Nat.add_sub_cancel_left]; rfl
  obtain ⟨w2, r2, q2, g2, z2⟩ := (h0.below hA').copy c0 (w1.heap.size + 1) (n + 1) (n + 1) (List.replicate (n + 1) ⟨#[]⟩) (Nat.le_succ _) (by simp) hg1
  have hB2 : Below (w1.heap.size + 1) (w1.alloc O) w2 := hA.grown g2 (by omega) (fun k hk => by cases hk; exact Nat.le_refl _)
  have hB2' : Below w1.heap.size w1 w2 := ((Below.refl _ _).alloc (Nat.le_refl _) _).trans (hB2.mono (Nat.le_succ _))
  have k2 : RowS w2 (w1.heap.size + 1 + 1) (List.replicate (n + 1) ⟨#[]⟩) := hg2.kept (g2.block _ (by omega) (by simp))
  obtain ⟨w3, r3, q3, g3, z3⟩ := (h1.below hB2').copy c1 (w1.heap.size + 1 + 1) (n + 1) (n + 1) (List.replicate (n + 1) ⟨#[]⟩) (Nat.le_succ _) (by simp) k2
  refine ⟨w2, w3, r2, r3, ?_, ?_, hB2.grown g3 (by omega) (fun k hk => by cases hk; omega)⟩
  · rw [hd] at q2
    exact q2.kept (g3.block _ (by omega) (by simp))
  · rw [hd] at q3
    exact q3

theorem set_last (ss : List ByteArray) (x y : ByteArray) (n : Nat) (h : ss.length = n) : (ss ++ [x]).set n y = ss ++ [y] := by
  subst h
  simp

/-- What the two stores leave. -/
theorem behind_stores {w1 w3 : World} {O : Obj} {n : Nat} {s0 s1 : List ByteArray} (nk nv : ByteArray) (hl0 : s0.length = n) (hl1 : s1.length = n)
    (hg1 : RowS w3 (w1.heap.size + 1) (s0 ++ [⟨#[]⟩])) (hg2 : RowS w3 (w1.heap.size + 1 + 1) (s1 ++ [⟨#[]⟩])) (hB3 : Below (w1.heap.size + 1) (w1.alloc O) w3) (w4 : World)
    (h4 : w4 = (w3.setCell ⟨w1.heap.size + 1, n, none⟩ (.string nk)).setCell ⟨w1.heap.size + 1 + 1, n, none⟩ (.string nv)) :
    RowS w4 (w1.heap.size + 1) (s0 ++ [nk]) ∧ RowS w4 (w1.heap.size + 1 + 1) (s1 ++ [nv]) ∧ Below (w1.heap.size + 1) (w1.alloc O) w4 := by
  subst h4
  refine ⟨?_, ?_, (hB3.setCell (Nat.le_refl _) _).setCell (Nat.le_succ _) _⟩
  · have h := hg1.set n nk
    rw [set_last _ _ _ _ hl0] at h
    exact h.kept (Below.heap_setCell _ _ _ _ (by simp))
  · have h := (hg2.kept (w' := w3.setCell ⟨w1.heap.size + 1, n, none⟩ (.string nk)) (Below.heap_setCell _ _ _ _ (by simp))).set n nv
    rw [set_last _ _ _ _ hl1] at h
    exact h

set_option maxHeartbeats 4000000 in
set_option maxRecDepth 100000 in
theorem tail_walk (F : Interp) (W : World) (a0 a1 a2 : Option Addr) (n c0 b0 o0 c1 b1 o1 n2 c2 b2 o2 : Nat) (s0 s1 s2 : List ByteArray) (path key nk nv : ByteArray) (ne : Bool) (w : World) (hF : F.answers w.tape)
    (hk : key.size ≤ 1048576) (hnk : nk.size ≤ 1048576) (hnv : nv.size ≤ 1048576) (hm1 : n ≤ 65536)
    (hr0 : StrRow w a0 n b0 o0 s0) (hr1 : StrRow w a1 n b1 o1 s1) (hr2 : StrRow w a2 n2 b2 o2 s2) (hB : Below W.heap.size W w)
    (u8 u9 u10 u11 u12 u13 u14 u15 u16 u17 u18 u19 u20 u21 u22 u23 u24 u25 u26 u27 u28 u29 u30 u31 u32 u33 u34 u35 u36 u37 u38 u39 u40 u41 u42 u43 u44 u45 u46 u47 u48 u49 u50 u51 u52 u53 u54 u55 u56 u57 u58 u59 u60 u61 u62 u63 u64 u65 u66 u67 u68 u69 u70 u71 u72 u73 u74 u75 u76 u77 u78 u79 u80 u81 u82 u83 u84 u85 u86 u87 u88 u89 u90 u91 u92 u93 u94 u95 u96 u97 u98 u99 u100 u101 u102 u103 u104 u105 u106 u107 u108 u109 u110 u111 u112 u113 u114 u115 u116 u117 u118 u119 u120 u121 u122 u123 u124 u125 u126 u127 u128 u129 u130 u131 u132 u133 u134 u135 u136 u137 u138 u139 u140 u141 u142 u143 u144 u145 u146 u147 u148 u149 u150 u151 u152 u153 u154 u155 u156 u157 u158 u159 u160 u161 u162 u163 u164 u165 u166 u167 u168 u169 u170 u171 u172 u173 u174 u175 u176 u177 u178 u179 u180 u181 u182 u183 u184 u185 u186 u187 u188 u189 u190 u191 u192 u193 u194 u195 u196 u197 u198 u199 u200 u201 u202 u203 u204 u205 u206 u207 u208 u209 u210 u211 u212 u213 : Value) :
    Code.wp Tryf.prog ((Tryf.f3.body.bind (tailAt 21)).getD .skip) (bodyPost Tryf.prog Tryf.f3 fun e w' => Yes W e w') ⟨#[.slice a0 n c0, .slice a1 n c1, .slice a2 n2 c2, .string path, .string key, .bool ne, .string nk, .string nv, u8, u9, u10, u11, u12, u13, u14, u15, u16, u17, u18, u19, u20, u21, u22, u23, u24, u25, u26, u27, u28, u29, u30, u31, u32, u33, u34, u35, u36, u37, u38, u39, u40, u41, u42, u43, u44, u45, u46, u47, u48, u49, u50, u51, u52, u53, u54, u55, u56, u57, u58, u59, u60, u61, u62, u63, u64, u65, u66, u67, u68, u69, u70, u71, u72, u73, u74, u75, u76, u77, u78, u79, u80, u81, u82, u83, u84, u85, u86, u87, u88, u89, u90, u91, u92, u93, u94, u95, u96, u97, u98, u99, u100, u101, u102, u103, u104, u105, u106, u107, u108, u109, u110, u111, u112, u113, u114, u115, u116, u117, u118, u119, u120, u121, u122, u123, u124, u125, u126, u127, u128, u129, u130, u131, u132, u133, u134, u135, u136, u137, u138, u139, u140, u141, u142, u143, u144, u145, u146, u147, u148, u149, u150, u151, u152, u153, u154, u155, u156, u157, u158, u159, u160, u161, u162, u163, u164, u165, u166, u167, u168, u169, u170, u171, u172, u173, u174, u175, u176, u177, u178, u179, u180, u181, u182, u183, u184, u185, u186, u187, u188, u189, u190, u191, u192, u193, u194, u195, u196, u197, u198, u199, u200, u201, u202, u203, u204, u205, u206, u207, u208, u209, u210, u211, u212, u213], []⟩ w := by
  conv => arg 2; whnf
  go_wp2_with fail
  refine (object_any a0 a1 a2 n c0 b0 o0 c1 b1 o1 n2 c2 b2 o2 s0 s1 s2 path w hr0 hr1 hr2).mono ?_
  rintro e w1 ⟨rfl, hown1, hB1⟩
  have hq0 := hr0.below hB1
  have hq1 := hr1.below hB1
  have hq2 := hr2.below hB1
  have hl0 := hr0.long
  have hl1 := hr1.long
  have hz0 := hr0.sizes
  have hz1 := hr1.sizes
  clear hr0 hr1 hr2
  generalize hMB : w.heap.size + 1 = MB at hown1
  obtain ⟨w2, w3, r2, r3, hg1, hg2, hB3⟩ := mid w1 (.cells #[.map (some MB), .string path] 28) hq0 hq1 c0 c1
  have hmk := run_make_row' (P := Tryf.prog) 22 9 (.string ⟨#[]⟩) 16 Tryf.underlying22 Tryf.info9 rfl .i64 .i64 (n + 1) (by omega) (by omega)
  have ec : ((n + 1 : Nat) : Int) = (n : Int) + 1 := by omega
  rw [ec] at hmk
  clear ec
  have k1 := hg1.cell n (by simp [hl0])
  have f1 := hg1.free n
  have k2 := hg2.cell n (by simp [hl1])
  have f2 := hg2.free n
  have H1 := Hid.mk hown1
  have H3 := Hid.mk hB3
  have HG1 := Hid.mk hg1
  have HG2 := Hid.mk hg2
  have HBW := Hid.mk hB
  have HB1 := Hid.mk hB1
  clear hown1 hB3 hg1 hg2 hB hB1

  clear hMB
  go_wp2_with fail
  clear r2 r3 hmk k1 f1 k2 f2
  generalize h4 : (w3.setCell ⟨w1.heap.size + 1, n, none⟩ (.string nk)).setCell ⟨w1.heap.size + 1 + 1, n, none⟩ (.string nv) = w4
  obtain ⟨hg1', hg2', hB4⟩ := behind_stores nk nv hl0 hl1 HG1.out HG2.out H3.out w4 h4.symm
  clear h4 HG1 HG2 H3
  have hB4' : Below w1.heap.size w1 w4 := ((Below.refl _ _).alloc (Nat.le_refl _) _).trans (hB4.mono (Nat.le_succ _))
  have hx0 := hg1'.row (n := n + 1) (by simp [hl0]) (by omega) (snoc_sizes hz0 hnk)
  have hx1 := hg2'.row (n := n + 1) (by simp [hl1]) (by omega) (snoc_sizes hz1 hnv)
  have hx2 := hq2.below hB4'
  refine (object_any _ _ a2 (n + 1) (n + 1) _ _ (n + 1) _ _ n2 c2 b2 o2 (s0 ++ [nk]) (s1 ++ [nv]) s2 path w4 hx0 hx1 hx2).mono ?_
  rintro e w5 ⟨rfl, hown2, hB5⟩
  rw [Dk_last _ _ _ _ _ _ hl0 hl1] at hown2
  generalize w4.heap.size + 1 = MB2 at hown2
  have hI := isMap_Dk (Dn s2 n2) (isMap_Dn s2 n2) s0 s1 n
  generalize Dk (Dn s2 n2) s0 s1 n = D at hown2 hI H1
  clear hx0 hx1 hx2 hg1' hg2' hq0 hq1 hq2 hz0 hz1 hl0 hl1
  go_wp2_with fail
  have hF5 : F.answers w5.tape := by rw [hB5.tape, hB4'.tape, HB1.out.tape]; exact hF
  have hlt4 : w1.heap.size + 1 ≤ w4.heap.size := by have := hB4.size; simpa using this
  have hlt5 : w4.heap.size ≤ w5.heap.size := hB5.size
  have hB15 : Below (w1.heap.size + 1) (w1.alloc (.cells #[.map (some MB), .string path] 28)) w5 := hB4.trans (hB5.mono hlt4)
  have hBW5 : Below W.heap.size W w5 := by
    have e1 := HBW.out
    have e2 := HB1.out
    exact e1.trans ((e2.mono e1.size).trans ((hB4'.mono (Nat.le_trans e1.size e2.size)).trans (hB5.mono (by have := e1.size; have := e2.size; omega))))
  clear hB4 hB4' hB5 HBW HB1
  have hown1 : w5.ownsMap Tryf.prog 9 anyElem MB (n2 + n) D := by
    have hlt := H1.out.lt
    obtain ⟨es, clock, h1, r⟩ := H1.out
    refine ⟨es, clock, ?_, r⟩
    rw [hB15.block MB (by omega), Below.heap_alloc _ _ _ hlt]
    exact h1
  have H15 := Hid.mk hB15
  have HW5 := Hid.mk hBW5
  have HO1 := Hid.mk hown1
  have HO2 := Hid.mk hown2
  have HI := Hid.mk hI
  clear hB15 hBW5 hown1 hown2 hI H1
  refine (string_any F MB2 _ _ path nk ne (w5.alloc (.cells #[.map (some MB2), .string path] 28)) hF5 (by unfold maxLen; omega) (HO2.out.alloc _)).mono ?_
  rintro e w7 ⟨⟨s, err, rfl, hout⟩, hB7⟩
  rw [strOf_same _ HI.out] at hout
  have hF7 : F.answers w7.tape := by rw [hB7.tape]; exact hF5
  have H7 := Hid.mk hB7
  have e0 : w7.cell? ⟨w5.heap.size, 0, none⟩ = some (.map (some MB2)) := by rw [hB7.cell (p := ⟨w5.heap.size, 0, none⟩) (by simp)]; simp
  have e1 : w7.cell? ⟨w5.heap.size, 1, none⟩ = some (.string path) := by rw [hB7.cell (p := ⟨w5.heap.size, 1, none⟩) (by simp)]; simp
  have e2 : w7.cell? ⟨w1.heap.size, 0, none⟩ = some (.map (some MB)) := by
    rw [hB7.cell (p := ⟨w1.heap.size, 0, none⟩) (by simp; omega), World.cell?_alloc_past _ _ _ (by omega), H15.out.cell (p := ⟨w1.heap.size, 0, none⟩) (by simp)]; simp
  have e3 : w7.cell? ⟨w1.heap.size, 1, none⟩ = some (.string path) := by
    rw [hB7.cell (p := ⟨w1.heap.size, 1, none⟩) (by simp; omega), World.cell?_alloc_past _ _ _ (by omega), H15.out.cell (p := ⟨w1.heap.size, 1, none⟩) (by simp)]; simp
  clear hB7 hF5
  rw [litOf_toList] at hout
  by_cases hc : (ne && nv.toList.isEmpty) = true
  · rw [if_pos hc] at hout
    obtain ⟨rfl, ax, rfl⟩ := hout
    obtain ⟨rfl, hemp⟩ : ne = true ∧ nv.toList.isEmpty = true := by simpa using hc
    clear hc
    go_wp2_with fail
    · have hkn : (!key.toList == nk.toList) = true := by assumption
      have hkne : litOf key ≠ litOf nk := by
        intro h
        have h' : key.toList = nk.toList := by simpa [litOf, litOf_toList] using h
        simp [h'] at hkn
      have h7 := H7.out
      have hs7 : w5.heap.size + 1 ≤ w7.heap.size := by have := h7.size; simpa using this
      have ho1 := ownsMap_below (HO1.out.alloc (.cells #[.map (some MB2), .string path] 28)) h7
      refine (string_any F MB _ D path key _ w7 hF7 (by unfold maxLen; omega) ho1).mono ?_
      rintro e w8 ⟨⟨sa, ea, rfl, houta⟩, hB8⟩
      have hF8 : F.answers w8.tape := by rw [hB8.tape]; exact hF7
      have ho2 := ownsMap_below (ownsMap_below (HO2.out.alloc (.cells #[.map (some MB2), .string path] 28)) h7) hB8
      have g0 : w8.cell? ⟨w5.heap.size, 0, none⟩ = some (.map (some MB2)) := (hB8.cell (p := ⟨w5.heap.size, 0, none⟩) (by simp; omega)).trans e0
      have g1 : w8.cell? ⟨w5.heap.size, 1, none⟩ = some (.string path) := (hB8.cell (p := ⟨w5.heap.size, 1, none⟩) (by simp; omega)).trans e1
      have hW8 : Below W.heap.size W w8 := by
        have e9 := HW5.out
        exact (e9.alloc e9.size _).trans ((h7.mono (by have := e9.size; simp; omega)).trans (hB8.mono (by have := e9.size; omega)))
      have HW8 := Hid.mk hW8
      have Houta := Hid.mk houta
      have HO2' := Hid.mk ho2
      have HB8 := Hid.mk hB8
      clear e0 e1 e2 e3 h7 ho1 houta ho2 hB8 hW8 hF7 hkn
      go_wp2_with fail
      refine (string_any F MB2 _ _ path key _ w8 hF8 (by unfold maxLen; omega) HO2'.out).mono ?_
      rintro e w9 ⟨⟨sb, eb, rfl, houtb⟩, hB9⟩
      rw [strOf_other _ _ _ _ _ hkne] at houtb
      have houta := Houta.out
      have hW9 : Below W.heap.size W w9 := by
        have e9 := HW8.out
        exact e9.trans (hB9.mono (by have := e9.size; omega))
      have HW9 := Hid.mk hW9
      clear g0 g1 hB9 hW9 Houta HO2' HB8 HW8
      generalize strOf D (litOf key) _ = o at houta houtb
      cases o with
      | none =>
        obtain ⟨rfl, xa, rfl⟩ := houta
        obtain ⟨rfl, xb, rfl⟩ := houtb
        clear hF8 H7 HO1 HO2
        go_wp2
        go_region
        all_goals go_wp2
        go_ret
        exact ⟨rfl, HW9.out.drew⟩
      | some l =>
        obtain ⟨ha, rfl⟩ := houta
        obtain ⟨hb, rfl⟩ := houtb
        obtain rfl : sa = sb := by
          apply ByteArray.ext
          apply Array.ext'
          rw [ha, hb]
        clear hF8 H7 HO1 HO2 ha hb
        go_wp2
        go_region
        all_goals go_wp2
        go_ret
        exact ⟨rfl, HW9.out.drew⟩
    · go_ret
      have e9 := HW5.out
      exact ⟨rfl, (e9.alloc e9.size _).trans (H7.out.mono (by have := e9.size; simp; omega))⟩
  · rw [if_neg hc] at hout
    obtain ⟨hs, rfl⟩ := hout
    obtain rfl : s = nv := by
      apply ByteArray.ext
      apply Array.ext'
      rw [hs, litOf_toList]
    cases ne
    · clear hc hs
      go_wp2_with fail
      · have hkn : (!key.toList == nk.toList) = true := by assumption
        have hkne : litOf key ≠ litOf nk := by
          intro h
          have h' : key.toList = nk.toList := by simpa [litOf, litOf_toList] using h
          simp [h'] at hkn
        have h7 := H7.out
        have hs7 : w5.heap.size + 1 ≤ w7.heap.size := by have := h7.size; simpa using this
        have ho1 := ownsMap_below (HO1.out.alloc (.cells #[.map (some MB2), .string path] 28)) h7
        refine (string_any F MB _ D path key _ w7 hF7 (by unfold maxLen; omega) ho1).mono ?_
        rintro e w8 ⟨⟨sa, ea, rfl, houta⟩, hB8⟩
        have hF8 : F.answers w8.tape := by rw [hB8.tape]; exact hF7
        have ho2 := ownsMap_below (ownsMap_below (HO2.out.alloc (.cells #[.map (some MB2), .string path] 28)) h7) hB8
        have g0 : w8.cell? ⟨w5.heap.size, 0, none⟩ = some (.map (some MB2)) := (hB8.cell (p := ⟨w5.heap.size, 0, none⟩) (by simp; omega)).trans e0
        have g1 : w8.cell? ⟨w5.heap.size, 1, none⟩ = some (.string path) := (hB8.cell (p := ⟨w5.heap.size, 1, none⟩) (by simp; omega)).trans e1
        have hW8 : Below W.heap.size W w8 := by
          have e9 := HW5.out
          exact (e9.alloc e9.size _).trans ((h7.mono (by have := e9.size; simp; omega)).trans (hB8.mono (by have := e9.size; omega)))
        have HW8 := Hid.mk hW8
        have Houta := Hid.mk houta
        have HO2' := Hid.mk ho2
        have HB8 := Hid.mk hB8
        clear e0 e1 e2 e3 h7 ho1 houta ho2 hB8 hW8 hF7 hkn
        go_wp2_with fail
        refine (string_any F MB2 _ _ path key _ w8 hF8 (by unfold maxLen; omega) HO2'.out).mono ?_
        rintro e w9 ⟨⟨sb, eb, rfl, houtb⟩, hB9⟩
        rw [strOf_other _ _ _ _ _ hkne] at houtb
        have houta := Houta.out
        have hW9 : Below W.heap.size W w9 := by
          have e9 := HW8.out
          exact e9.trans (hB9.mono (by have := e9.size; omega))
        have HW9 := Hid.mk hW9
        clear g0 g1 hB9 hW9 Houta HO2' HB8 HW8
        generalize strOf D (litOf key) _ = o at houta houtb
        cases o with
        | none =>
          obtain ⟨rfl, xa, rfl⟩ := houta
          obtain ⟨rfl, xb, rfl⟩ := houtb
          clear hF8 H7 HO1 HO2
          go_wp2
          go_region
          all_goals go_wp2
          go_ret
          exact ⟨rfl, HW9.out.drew⟩
        | some l =>
          obtain ⟨ha, rfl⟩ := houta
          obtain ⟨hb, rfl⟩ := houtb
          obtain rfl : sa = sb := by
            apply ByteArray.ext
            apply Array.ext'
            rw [ha, hb]
          clear hF8 H7 HO1 HO2 ha hb
          go_wp2
          go_region
          all_goals go_wp2
          go_ret
          exact ⟨rfl, HW9.out.drew⟩
      · go_ret
        have e9 := HW5.out
        exact ⟨rfl, (e9.alloc e9.size _).trans (H7.out.mono (by have := e9.size; simp; omega))⟩
    · have hemp : s.toList.isEmpty = false := by simpa using hc
      clear hc hs
      go_wp2_with fail
      · have hkn : (!key.toList == nk.toList) = true := by assumption
        have hkne : litOf key ≠ litOf nk := by
          intro h
          have h' : key.toList = nk.toList := by simpa [litOf, litOf_toList] using h
          simp [h'] at hkn
        have h7 := H7.out
        have hs7 : w5.heap.size + 1 ≤ w7.heap.size := by have := h7.size; simpa using this
        have ho1 := ownsMap_below (HO1.out.alloc (.cells #[.map (some MB2), .string path] 28)) h7
        refine (string_any F MB _ D path key _ w7 hF7 (by unfold maxLen; omega) ho1).mono ?_
        rintro e w8 ⟨⟨sa, ea, rfl, houta⟩, hB8⟩
        have hF8 : F.answers w8.tape := by rw [hB8.tape]; exact hF7
        have ho2 := ownsMap_below (ownsMap_below (HO2.out.alloc (.cells #[.map (some MB2), .string path] 28)) h7) hB8
        have g0 : w8.cell? ⟨w5.heap.size, 0, none⟩ = some (.map (some MB2)) := (hB8.cell (p := ⟨w5.heap.size, 0, none⟩) (by simp; omega)).trans e0
        have g1 : w8.cell? ⟨w5.heap.size, 1, none⟩ = some (.string path) := (hB8.cell (p := ⟨w5.heap.size, 1, none⟩) (by simp; omega)).trans e1
        have hW8 : Below W.heap.size W w8 := by
          have e9 := HW5.out
          exact (e9.alloc e9.size _).trans ((h7.mono (by have := e9.size; simp; omega)).trans (hB8.mono (by have := e9.size; omega)))
        have HW8 := Hid.mk hW8
        have Houta := Hid.mk houta
        have HO2' := Hid.mk ho2
        have HB8 := Hid.mk hB8
        clear e0 e1 e2 e3 h7 ho1 houta ho2 hB8 hW8 hF7 hkn
        go_wp2_with fail
        refine (string_any F MB2 _ _ path key _ w8 hF8 (by unfold maxLen; omega) HO2'.out).mono ?_
        rintro e w9 ⟨⟨sb, eb, rfl, houtb⟩, hB9⟩
        rw [strOf_other _ _ _ _ _ hkne] at houtb
        have houta := Houta.out
        have hW9 : Below W.heap.size W w9 := by
          have e9 := HW8.out
          exact e9.trans (hB9.mono (by have := e9.size; omega))
        have HW9 := Hid.mk hW9
        clear g0 g1 hB9 hW9 Houta HO2' HB8 HW8
        generalize strOf D (litOf key) _ = o at houta houtb
        cases o with
        | none =>
          obtain ⟨rfl, xa, rfl⟩ := houta
          obtain ⟨rfl, xb, rfl⟩ := houtb
          clear hF8 H7 HO1 HO2
          go_wp2
          go_region
          all_goals go_wp2
          go_ret
          exact ⟨rfl, HW9.out.drew⟩
        | some l =>
          obtain ⟨ha, rfl⟩ := houta
          obtain ⟨hb, rfl⟩ := houtb
          obtain rfl : sa = sb := by
            apply ByteArray.ext
            apply Array.ext'
            rw [ha, hb]
          clear hF8 H7 HO1 HO2 ha hb
          go_wp2
          go_region
          all_goals go_wp2
          go_ret
          exact ⟨rfl, HW9.out.drew⟩
      · go_ret
        have e9 := HW5.out
        exact ⟨rfl, (e9.alloc e9.size _).trans (H7.out.mono (by have := e9.size; simp; omega))⟩
end Go.Proofs.Qxb6615790aFmt
