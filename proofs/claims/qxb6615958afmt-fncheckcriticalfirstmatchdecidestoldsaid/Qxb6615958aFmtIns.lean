import Derived.Test.Qxb6615958aFmtCopy
namespace Go.Proofs.Qxb6615958aFmt
open Go.RowKit

/-- f with x put in at place p. -/
def insF {α : Type} (p : Nat) (f : Nat → α) (x : α) (j : Nat) : α := if j < p then f j else if j = p then x else f (j - 1)

theorem insF_lt {α : Type} {p : Nat} {f : Nat → α} {x : α} {j : Nat} (h : j < p) : insF p f x j = f j := by simp [insF, h]
theorem insF_at {α : Type} {p : Nat} {f : Nat → α} {x : α} : insF p f x p = x := by simp [insF]
theorem insF_gt {α : Type} {p : Nat} {f : Nat → α} {x : α} {j : Nat} (h : p ≤ j) : insF p f x (j + 1) = f j := by
  unfold insF
  rw [if_neg (by omega), if_neg (by omega)]
  rfl

/-- A row of the call's own that is being filled: cell j holds f j where d says so, else z. -/
structure FillC (w : World) (g m : Nat) (f : Nat → Value) (z : Value) (d : Nat → Bool) : Prop where
  cells : ∀ j, j < m → w.cell? ⟨g, j, none⟩ = some (if d j then f j else z)
  free : ∀ o, w.frozen? ⟨g, o, none⟩ = false

theorem FillC.made (w : World) (m : Nat) (f : Nat → Value) (z : Value) (e : TypeId) : FillC (w.alloc (.cells (madeCells #[z] m) e)) w.heap.size m f z (fun _ => false) := by
  refine ⟨fun j hj => ?_, fun o => by go_simp⟩
  rw [World.cell?_alloc_at _ _ _ _ rfl, made_at _ _ hj]
  simp [Nat.mod_one]

theorem FillC.step {w : World} {g m : Nat} {f : Nat → Value} {z : Value} {d d' : Nat → Bool} (h : FillC w g m f z d) {i : Nat} (hi : i < m) {v : Value} (hv : f i = v) (hd : ∀ j, j < m → d' j = (d j || decide (j = i))) :
    FillC (w.setCell ⟨g, i, none⟩ v) g m f z d' := by
  refine ⟨fun j hj => ?_, fun o => by rw [World.frozen?_setCell]; exact h.free o⟩
  rw [hd j hj]
  by_cases e : j = i
  · subst e
    rw [cell_same (h.cells j hj)]
    simp [hv]
  · rw [cell_other (by omega), h.cells j hj]
    simp [e]

theorem FillC.other {w : World} {g m : Nat} {f : Nat → Value} {z : Value} {d : Nat → Bool} (h : FillC w g m f z d) {a : Addr} (ha : g ≠ a.block) (v : Value) : FillC (w.setCell a v) g m f z d := by
  have hb := Below.heap_setCell w a v g ha
  exact ⟨fun j hj => (World.cell?_of_block (w := w) (a := ⟨g, j, none⟩) hb).trans (h.cells j hj), fun o => by rw [World.frozen?_setCell]; exact h.free o⟩

theorem FillC.kept {w w' : World} {g m : Nat} {f : Nat → Value} {z : Value} {d : Nat → Bool} (h : FillC w g m f z d) (hb : w'.heap[g]? = w.heap[g]?) : FillC w' g m f z d :=
  ⟨fun j hj => (World.cell?_of_block (w := w) (a := ⟨g, j, none⟩) hb).trans (h.cells j hj), fun o => (World.frozen?_of_block (w := w) (a := ⟨g, o, none⟩) hb).trans (h.free o)⟩

/-- Which places are filled behind k rounds. -/
def doneAt (p k j : Nat) : Bool := (decide (j < p) && decide (j < k)) || (decide (p < j) && decide (j ≤ k))

theorem done_lt {p k : Nat} (h : k < p) (j : Nat) : doneAt p (k + 1) j = (doneAt p k j || decide (j = k)) := by
  unfold doneAt
  rw [Bool.eq_iff_iff]
  simp
  omega
theorem done_ge {p k : Nat} (h : p ≤ k) (j : Nat) : doneAt p (k + 1) j = (doneAt p k j || decide (j = k + 1)) := by
  unfold doneAt
  rw [Bool.eq_iff_iff]
  simp
  omega
theorem done_all {p n j : Nat} (_hp : p ≤ n) (hj : j < n + 1) : true = (doneAt p n j || decide (j = p)) := by
  unfold doneAt
  rw [Bool.eq_iff_iff]
  simp
  omega

theorem doneAt_zero (p j : Nat) : doneAt p 0 j = false := by
  unfold doneAt
  simp
  omega

theorem getD_range {α : Type} (f : Nat → α) (d : α) {m j : Nat} (h : j < m) : ((List.range m).map f).getD j d = f j := by
  simp [List.getD_eq_getElem?_getD, h]

/-! ### the plain law -/
theorem firstAt_spec (rs : List Row) (zs : List Int) : ∀ m k, (firstAt rs zs m k = -1 ∧ ∀ j, k ≤ j → j < k + m → (rs.getD j Row.nil).zs ≠ zs) ∨
    ∃ i : Nat, firstAt rs zs m k = i ∧ k ≤ i ∧ i < k + m ∧ (rs.getD i Row.nil).zs = zs ∧ ∀ j, k ≤ j → j < i → (rs.getD j Row.nil).zs ≠ zs := by
  intro m
  induction m with
  | zero => intro k; exact .inl ⟨rfl, fun j h1 h2 => by omega⟩
  | succ m ih =>
    intro k
    by_cases h : (rs.getD k Row.nil).zs = zs
    · have e : firstAt rs zs (m + 1) k = k := by
        have hd : decide ((rs.getD k Row.nil).zs = zs) = true := decide_eq_true h
        simp only [firstAt, hd]
        rfl
      exact .inr ⟨k, e, Nat.le_refl _, by omega, h, fun j h1 h2 => by omega⟩
    · have e : firstAt rs zs (m + 1) k = firstAt rs zs m (k + 1) := by
        have hd : decide ((rs.getD k Row.nil).zs = zs) = false := decide_eq_false h
        simp only [firstAt, hd]
        rfl
      rw [e]
      rcases ih (k + 1) with ⟨h1, h2⟩ | ⟨i, h1, h2, h3, h4, h5⟩
      · refine .inl ⟨h1, fun j a b => ?_⟩
        by_cases ej : j = k
        · rw [ej]; exact h
        · exact h2 j (by omega) (by omega)
      · refine .inr ⟨i, h1, by omega, by omega, h4, fun j a b => ?_⟩
        by_cases ej : j = k
        · rw [ej]; exact h
        · exact h5 j (by omega) b

theorem firstAt_eq (rs : List Row) (zs : List Int) (m i : Nat) (hi : i < m) (h : (rs.getD i Row.nil).zs = zs) (hn : ∀ j, j < i → (rs.getD j Row.nil).zs ≠ zs) : firstAt rs zs m 0 = i := by
  rcases firstAt_spec rs zs m 0 with ⟨_, h2⟩ | ⟨i', h1, _, h3, h4, h5⟩
  · exact absurd h (h2 i (by omega) (by omega))
  · rw [h1]
    have : i' = i := by
      rcases Nat.lt_trichotomy i' i with a | a | a
      · exact absurd h4 (hn i' a)
      · exact a
      · exact absurd h (h5 i (by omega) a)
    rw [this]

theorem hasB_take_false {rs : List Row} {zs : List Int} {p : Nat} (hp : p ≤ rs.length) (h : hasB (rs.take p) zs = false) (j : Nat) (hj : j < p) : (rs.getD j Row.nil).zs ≠ zs := by
  intro e
  have hj' : j < (rs.take p).length := by rw [List.length_take]; omega
  have := hasB_hit (rs.take p) zs j hj' (by rw [getD_take, if_pos hj]; exact decide_eq_true e)
  rw [h] at this
  cases this

theorem hasB_take_true {rs : List Row} {zs : List Int} {p : Nat} (hp : p ≤ rs.length) (h : hasB (rs.take p) zs = true) : ∃ i, i < p ∧ (rs.getD i Row.nil).zs = zs ∧ ∀ j, j < i → (rs.getD j Row.nil).zs ≠ zs := by
  rcases firstAt_spec rs zs p 0 with ⟨_, h2⟩ | ⟨i, _, _, h3, h4, h5⟩
  · unfold hasB at h
    rw [List.any_eq_true] at h
    obtain ⟨r, hr, hd⟩ := h
    obtain ⟨j, hj, rfl⟩ := List.mem_iff_getElem.1 hr
    rw [List.length_take] at hj
    have e : (rs.getD j Row.nil).zs = zs := by
      rw [List.getD_eq_getElem?_getD, List.getElem?_eq_getElem (by omega)]
      simpa using of_decide_eq_true hd
    exact absurd e (h2 j (by omega) (by omega))
  · exact ⟨i, by omega, h4, fun j hj => h5 j (by omega) hj⟩

/-- The extensions with one more put in at p. -/
def rs2 (rs : List Row) (n p : Nat) (r : Row) : List Row := (List.range (n + 1)).map (insF p (fun j => rs.getD j Row.nil) r)
def bs2 (bs : List Bool) (n p : Nat) (c : Bool) : List Bool := (List.range (n + 1)).map (insF p (fun j => bs.getD j false) c)

theorem ins_no {rs : List Row} {bs : List Bool} {n p : Nat} {r : Row} {c : Bool} (hl : rs.length = n) (hp : p ≤ n) (h : hasB (rs.take p) r.zs = false) : passes (rs2 rs n p r) (bs2 bs n p c) r.zs (n + 1) = c := by
  have e : firstAt (rs2 rs n p r) r.zs (n + 1) 0 = p := by
    apply firstAt_eq _ _ _ _ (by omega)
    · unfold rs2; rw [getD_range _ _ (by omega), insF_at]
    · intro j hj
      unfold rs2
      rw [getD_range _ _ (by omega), insF_lt hj]
      exact hasB_take_false (by omega) h j hj
  unfold passes
  rw [e, if_neg (by omega), Int.toNat_natCast]
  unfold bs2
  rw [getD_range _ _ (by omega), insF_at]

theorem ins_yes {rs : List Row} {bs : List Bool} {n p : Nat} {r : Row} {c : Bool} (hl : rs.length = n) (hp : p ≤ n) (h : hasB (rs.take p) r.zs = true) : passes (rs2 rs n p r) (bs2 bs n p c) r.zs (n + 1) = passes rs bs r.zs n := by
  obtain ⟨i, hi, hm, hno⟩ := hasB_take_true (by omega) h
  have e1 : firstAt rs r.zs n 0 = i := firstAt_eq _ _ _ _ (by omega) hm hno
  have e2 : firstAt (rs2 rs n p r) r.zs (n + 1) 0 = i := by
    apply firstAt_eq _ _ _ _ (by omega)
    · unfold rs2; rw [getD_range _ _ (by omega), insF_lt hi]; exact hm
    · intro j hj
      unfold rs2
      rw [getD_range _ _ (by omega), insF_lt (by omega)]
      exact hno j hj
  unfold passes
  rw [e1, e2, if_neg (by omega), if_neg (by omega), Int.toNat_natCast]
  unfold bs2
  rw [getD_range _ _ (by omega), insF_lt hi]
end Go.Proofs.Qxb6615958aFmt
