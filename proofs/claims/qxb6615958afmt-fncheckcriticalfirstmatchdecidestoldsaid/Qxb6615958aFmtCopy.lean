import Derived.Test.Qxb6615958aFmtZz
import Derived.Laws.CopyOwn
namespace Go.Proofs.Qxb6615958aFmt
open Go.RowKit
open Go.Extern.Stop Go.Stop Go.Extern

/-- 'true' came back, and of what was there nothing has turned. -/
def Yes (W : World) (e : Ending) (w' : World) : Prop := e = .returned (.bool true) ∧ Below W.heap.size W w'

theorem Tryf.info4 : (Tryf.prog.info? 4).map (fun i => (i.zero, i.size, i.bytes)) = some (some (.bool false), 1, 1) := by kernel_rfl
theorem Tryf.size4 : (Tryf.prog.info? 4).map (·.size) = some 1 := by kernel_rfl
theorem Tryf.info3 : (Tryf.prog.info? 3).map (fun i => (i.zero, i.size, i.bytes)) = some (some (.int .i64 0), 1, 8) := by kernel_rfl
theorem Tryf.size3 : (Tryf.prog.info? 3).map (·.size) = some 1 := by kernel_rfl
theorem Tryf.info24 : (Tryf.prog.info? 24).map (fun i => (i.zero, i.size, i.bytes)) = some (some (.slice none 0 0), 1, 24) := by kernel_rfl

theorem add_at (b o j : Nat) : (⟨b, o, none⟩ : Addr).add j = ⟨b, o + j, none⟩ := by
  unfold Addr.add
  split
  · rename_i h; subst h; rfl
  · rfl

/-- 'make' and 'copy' in one: the new row holds what the source holds. -/
theorem copied_gen (t e : TypeId) (z : Value) (hu : Tryf.prog.underlying t = some (.slice e)) (hs : (Tryf.prog.info? e).map (·.size) = some 1) {w : World} {a : Option Addr} {n b o : Nat} (vs : List Value) (hl : vs.length = n)
    (here : 0 < n → a = some ⟨b, o, none⟩) (hc : ∀ (j : Nat) v, vs[j]? = some v → w.cell? ⟨b, o + j, none⟩ = some v) (one : ∀ v ∈ vs, v.oneCell' = true) (c : Nat) :
    ∃ w2, Sem.run Tryf.prog (Builtin.copy_ #[t, t] 3 #[.slice (some ⟨w.heap.size, 0, none⟩) n n, .slice a n c]) (w.alloc (.cells (madeCells #[z] n) e)) = .ok (.int .i64 n) w2 ∧
      w2.heap[w.heap.size]? = some (.cells vs.toArray e (0, 0)) ∧ Below w.heap.size w w2 := by
  have hB : Below w.heap.size w (w.alloc (.cells (madeCells #[z] n) e)) := (Below.refl _ _).alloc (Nat.le_refl _) _
  have hg := heap_alloc_new w (.cells (madeCells #[z] n) e)
  by_cases h0 : n = 0
  · subst h0
    have hv : vs = [] := List.eq_nil_of_length_eq_zero hl
    subst hv
    refine ⟨_, run_copy_none (P := Tryf.prog) _ t t 3 e _ _ _ _ _ _ hu hs (by simp), ?_, hB⟩
    rw [hg]
    simp [madeCells]
  · have ha := here (by omega)
    subst ha
    have hcur : (madeCells #[z] n).size = n := size_madeCells _ _
    have hrun := run_copy_row (P := Tryf.prog) (w.alloc (.cells (madeCells #[z] n) e)) t t 3 e w.heap.size 0 n n ⟨b, o, none⟩ n c (madeCells #[z] n) e vs hu hs hg (by simpa using hl)
      (fun j v hj => by
        have h1 := hc j v hj
        rw [add_at, hB.cell (p := ⟨b, o + j, none⟩) (lt_of_cell h1)]
        exact h1) (by rw [hcur]; omega) one
    have e1 : (List.take 0 (madeCells #[z] n).toList ++ vs ++ List.drop (0 + vs.length) (madeCells #[z] n).toList).toArray = vs.toArray := by
      rw [List.drop_eq_nil_of_le (by rw [Array.length_toList, hcur]; omega)]
      simp
    rw [e1] at hrun
    exact ⟨_, hrun.trans (by simp [goInt, hl]), setRow_heap _ _ _ _ _ _ hg, below_setRow hB (Nat.le_refl _) _⟩

theorem getD_of {α : Type} {l : List α} {j : Nat} {v : α} (d : α) (h : l[j]? = some v) : l.getD j d = v := by rw [List.getD_eq_getElem?_getD, h]; rfl
theorem lt_of_get {α : Type} {l : List α} {j : Nat} {v : α} (h : l[j]? = some v) : j < l.length := by
  rcases Nat.lt_or_ge j l.length with h1 | h1
  · exact h1
  · rw [List.getElem?_eq_none h1] at h; cases h

theorem copied_bools {w : World} {a : Option Addr} {n b o : Nat} {bs : List Bool} (h : BoolRow w a n b o bs) (c : Nat) :
    ∃ w2, Sem.run Tryf.prog (Builtin.copy_ #[23, 23] 3 #[.slice (some ⟨w.heap.size, 0, none⟩) n n, .slice a n c]) (w.alloc (.cells (madeCells #[.bool false] n) 4)) = .ok (.int .i64 n) w2 ∧ BoolRow w2 (some ⟨w.heap.size, 0, none⟩) n w.heap.size 0 bs ∧ Below w.heap.size w w2 := by
  have hl := h.long
  obtain ⟨w2, hrun, hg, hB⟩ := copied_gen 23 4 (.bool false) Tryf.underlying23 Tryf.size4 (bs.map Value.bool) (by simpa using hl) h.here
    (fun j v hj => by
      rw [List.getElem?_map, Option.map_eq_some_iff] at hj
      obtain ⟨x, hx, rfl⟩ := hj
      rw [h.cells j (by have := lt_of_get hx; omega), getD_of _ hx]) (fun v hv => by obtain ⟨x, _, rfl⟩ := List.mem_map.1 hv; rfl) c
  refine ⟨w2, hrun, ⟨fun _ => rfl, fun k hk => ?_, hl, h.short⟩, hB⟩
  have hk' : k < bs.length := by omega
  simp [World.cell?, hg, List.getElem?_eq_getElem hk', List.getD_eq_getElem?_getD]

theorem copied_ints {w : World} {a : Option Addr} {n b o : Nat} {zs : List Int} (h : IntRow w a n b o zs) (c : Nat) :
    ∃ w2, Sem.run Tryf.prog (Builtin.copy_ #[24, 24] 3 #[.slice (some ⟨w.heap.size, 0, none⟩) n n, .slice a n c]) (w.alloc (.cells (madeCells #[.int .i64 0] n) 3)) = .ok (.int .i64 n) w2 ∧ IntRow w2 (some ⟨w.heap.size, 0, none⟩) n w.heap.size 0 zs ∧ Below w.heap.size w w2 := by
  have hl := h.long
  obtain ⟨w2, hrun, hg, hB⟩ := copied_gen 24 3 (.int .i64 0) Tryf.underlying24 Tryf.size3 (zs.map (Value.int .i64)) (by simpa using hl) h.here
    (fun j v hj => by
      rw [List.getElem?_map, Option.map_eq_some_iff] at hj
      obtain ⟨x, hx, rfl⟩ := hj
      rw [h.cells j (by have := lt_of_get hx; omega), getD_of _ hx]) (fun v hv => by obtain ⟨x, _, rfl⟩ := List.mem_map.1 hv; rfl) c
  refine ⟨w2, hrun, ⟨fun _ => rfl, fun k hk => ?_, hl, h.short⟩, hB⟩
  have hk' : k < zs.length := by omega
  simp [World.cell?, hg, List.getElem?_eq_getElem hk', List.getD_eq_getElem?_getD]

/-- A row of bools of the call's own, filled from the left: what cell j holds behind k rounds. -/
structure FlagC (w : World) (g n : Nat) (f : Nat → Bool) (k : Nat) : Prop where
  cells : ∀ j, j < n → w.cell? ⟨g, j, none⟩ = some (.bool (if j < k then f j else false))
  free : ∀ o, w.frozen? ⟨g, o, none⟩ = false

theorem FlagC.made (w : World) (n : Nat) (f : Nat → Bool) : FlagC (w.alloc (.cells (madeCells #[.bool false] n) 4)) w.heap.size n f 0 := by
  refine ⟨fun j hj => ?_, fun o => by go_simp⟩
  rw [World.cell?_alloc_at _ _ _ _ rfl, made_at _ _ hj]
  simp [Nat.mod_one]

theorem FlagC.step {w : World} {g n : Nat} {f : Nat → Bool} {k : Nat} (h : FlagC w g n f k) (hk : k < n) (v : Bool) (hv : f k = v) : FlagC (w.setCell ⟨g, k, none⟩ (.bool v)) g n f (k + 1) := by
  refine ⟨fun j hj => ?_, fun o => by rw [World.frozen?_setCell]; exact h.free o⟩
  by_cases e : j = k
  · subst e
    rw [cell_same (h.cells j hj), if_pos (by omega), hv]
  · rw [cell_other (by omega), h.cells j hj]
    by_cases h1 : j < k
    · rw [if_pos h1, if_pos (by omega)]
    · rw [if_neg h1, if_neg (by omega)]

theorem FlagC.row {w : World} {g n : Nat} {f : Nat → Bool} (h : FlagC w g n f n) (hn : n ≤ 131073) : BoolRow w (some ⟨g, 0, none⟩) n g 0 ((List.range n).map f) := by
  refine ⟨fun _ => rfl, fun k hk => ?_, by simp, by omega⟩
  rw [Nat.zero_add, h.cells k hk, if_pos hk]
  simp [List.getD_eq_getElem?_getD, hk]

/-! ### the plain laws -/
theorem firstAt_none (rs : List Row) (zs : List Int) : ∀ m k, k + m = rs.length → (firstAt rs zs m k < 0 ↔ hasB (rs.drop k) zs = false) := by
  intro m
  induction m with
  | zero =>
    intro k hk
    rw [List.drop_eq_nil_of_le (by omega)]
    simp [firstAt, hasB]
  | succ m ih =>
    intro k hk
    have hk' : k < rs.length := by omega
    have hd : hasB (rs.drop k) zs = (decide ((rs.getD k Row.nil).zs = zs) || hasB (rs.drop (k + 1)) zs) := by
      rw [List.drop_eq_getElem_cons hk']
      unfold hasB
      rw [List.any_cons, List.getD_eq_getElem?_getD, List.getElem?_eq_getElem hk']
      rfl
    unfold firstAt
    rw [hd]
    cases h : decide ((rs.getD k Row.nil).zs = zs) with
    | true => simp
    | false => simpa using ih (k + 1) (by omega)

theorem has_first (rs : List Row) (zs : List Int) (n : Nat) (h : rs.length = n) : firstAt rs zs n 0 < 0 ↔ hasB rs zs = false := by
  have := firstAt_none rs zs n 0 (by omega)
  simpa using this

theorem flip_has (rs : List Row) (bs : List Bool) (zs : List Int) (n : Nat) (h : rs.length = n) (hh : hasB rs zs = true) : passes rs ((List.range n).map fun j => !bs.getD j false) zs n = !passes rs bs zs n := by
  have hf : ¬ firstAt rs zs n 0 < 0 := by rw [has_first rs zs n h, hh]; simp
  unfold passes
  rw [if_neg hf, if_neg hf]
  rcases firstAt_bounds rs zs n 0 with h1 | h1
  · simp [List.getD_eq_getElem?_getD, show (firstAt rs zs n 0).toNat < n by omega]
  · omega

theorem pass_not (rs : List Row) (bs : List Bool) (zs : List Int) (n : Nat) (h : rs.length = n) (hh : hasB rs zs = false) : passes rs bs zs n = false := by
  have hf : firstAt rs zs n 0 < 0 := by rw [has_first rs zs n h]; exact hh
  unfold passes
  rw [if_pos hf]
end Go.Proofs.Qxb6615958aFmt
