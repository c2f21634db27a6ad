import Derived.Test.Qxb6615958aHand
import Derived.Laws.CopyOwn
namespace Go.Proofs.Qxb6615958a
open Go.RowKit
open Go.Extern.Stop Go.Stop Go.Extern

theorem info5 : (Try.prog.info? 5).map (fun i => (i.zero, i.size, i.bytes)) = some (some (.int .u8 0), 1, 1) := by kernel_rfl
theorem size5 : (Try.prog.info? 5).map (·.size) = some 1 := by kernel_rfl

theorem add_at (b o j : Nat) : (⟨b, o, none⟩ : Addr).add j = ⟨b, o + j, none⟩ := by
  unfold Addr.add
  split
  · rename_i h; subst h; rfl
  · rfl

theorem getD_of {α : Type} {l : List α} {j : Nat} {v : α} (d : α) (h : l[j]? = some v) : l.getD j d = v := by rw [List.getD_eq_getElem?_getD, h]; rfl
theorem lt_of_get {α : Type} {l : List α} {j : Nat} {v : α} (h : l[j]? = some v) : j < l.length := by
  rcases Nat.lt_or_ge j l.length with h1 | h1
  · exact h1
  · rw [List.getElem?_eq_none h1] at h; cases h

def byteV (x : Nat) : Value := .int .u8 (x : Int)

/-- A new row of l bytes, all zero; then 'copy' of a row of n bytes at its offset s. -/
theorem copied {w : World} {a : Option Addr} {n b o : Nat} {bs : List Nat} (h : ByteRow w a n b o bs) (c s l : Nat) (hl : s + n ≤ l) :
    ∃ w2, Sem.run Try.prog (Builtin.copy_ #[22, 22] 3 #[.slice (some ⟨w.heap.size, s, none⟩) (l - s) (l - s), .slice a n c]) (w.alloc (.cells (madeCells #[.int .u8 0] l) 5)) = .ok (.int .i64 n) w2 ∧
      ByteRow w2 (some ⟨w.heap.size, 0, none⟩) l w.heap.size 0 (List.replicate s 0 ++ bs ++ List.replicate (l - s - n) 0) ∧ Below w.heap.size w w2 := by
  have hB : Below w.heap.size w (w.alloc (.cells (madeCells #[.int .u8 0] l) 5)) := (Below.refl _ _).alloc (Nat.le_refl _) _
  have hg := heap_alloc_new w (.cells (madeCells #[.int .u8 0] l) 5)
  have hlong := h.long
  have hmade : (madeCells #[.int .u8 0] l).toList = List.replicate l (byteV 0) := by
    apply List.ext_getElem?
    intro i
    rw [Array.getElem?_toList]
    by_cases hi : i < l
    · rw [made_at _ _ hi]
      simp [Nat.mod_one, hi, byteV]
    · rw [Array.getElem?_eq_none (by rw [size_madeCells]; omega), List.getElem?_eq_none (by simp; omega)]
  have hsmall : Small (List.replicate s 0 ++ bs ++ List.replicate (l - s - n) 0) := by
    intro k
    rw [List.getD_eq_getElem?_getD]
    cases hk : (List.replicate s 0 ++ bs ++ List.replicate (l - s - n) 0)[k]? with
    | none => simp
    | some x =>
      have hm := List.mem_of_getElem? hk
      simp only [List.mem_append, List.mem_replicate] at hm
      simp only [Option.getD_some]
      rcases hm with (hm | hm) | hm
      · omega
      · obtain ⟨j, hj, rfl⟩ := List.getElem_of_mem hm
        have := h.small j
        rwa [List.getD_eq_getElem?_getD, List.getElem?_eq_getElem hj] at this
      · omega
  have hrow : ∀ w2 : World, w2.heap[w.heap.size]? = some (.cells ((List.replicate s 0 ++ bs ++ List.replicate (l - s - n) 0).map byteV).toArray 5 (0, 0)) → ByteRow w2 (some ⟨w.heap.size, 0, none⟩) l w.heap.size 0 (List.replicate s 0 ++ bs ++ List.replicate (l - s - n) 0) := by
    intro w2 hg2
    refine ⟨fun _ => rfl, fun k hk => ?_, by simp; omega, hsmall⟩
    generalize hL : List.replicate s 0 ++ bs ++ List.replicate (l - s - n) 0 = L at hg2
    have hLl : L.length = l := by rw [← hL]; simp; omega
    have hk' : k < L.length := by omega
    simp [World.cell?, hg2, List.getElem?_eq_getElem hk', List.getD_eq_getElem?_getD, byteV]
  by_cases h0 : n = 0
  · subst h0
    have hv : bs = [] := List.eq_nil_of_length_eq_zero hlong
    subst hv
    refine ⟨_, run_copy_none (P := Try.prog) _ 22 22 3 5 _ _ _ _ _ _ Try.underlying22 size5 (by simp), hrow _ ?_, hB⟩
    rw [hg, ← Array.toArray_toList (xs := madeCells #[.int .u8 0] l), hmade]
    simp only [List.append_nil, List.replicate_append_replicate, List.map_replicate, Nat.sub_zero]
    rw [show s + (l - s) = l from by omega]
  · have ha := h.here (by omega)
    subst ha
    have hcur : (madeCells #[.int .u8 0] l).size = l := size_madeCells _ _
    have hrun := run_copy_row (P := Try.prog) (w.alloc (.cells (madeCells #[.int .u8 0] l) 5)) 22 22 3 5 w.heap.size s (l - s) (l - s) ⟨b, o, none⟩ n c (madeCells #[.int .u8 0] l) 5 (bs.map byteV) Try.underlying22 size5 hg (by rw [List.length_map, hlong]; exact (Nat.min_eq_left (show n ≤ l - s by omega)).symm)
      (fun j v hj => by
        rw [List.getElem?_map, Option.map_eq_some_iff] at hj
        obtain ⟨x, hx, rfl⟩ := hj
        have h1 := h.cells j (by have := lt_of_get hx; omega)
        rw [add_at, hB.cell (p := ⟨b, o + j, none⟩) (lt_of_cell h1), h1, getD_of _ hx]
        rfl) (by rw [hcur]; simp; omega) (fun v hv => by obtain ⟨x, _, rfl⟩ := List.mem_map.1 hv; rfl)
    have e1 : (List.take s (madeCells #[.int .u8 0] l).toList ++ bs.map byteV ++ List.drop (s + (bs.map byteV).length) (madeCells #[.int .u8 0] l).toList).toArray = ((List.replicate s 0 ++ bs ++ List.replicate (l - s - n) 0).map byteV).toArray := by
      rw [hmade, List.take_replicate, List.drop_replicate, List.length_map, hlong, Nat.min_eq_left (by omega), List.map_append, List.map_append, List.map_replicate, List.map_replicate, Nat.sub_sub]
    rw [e1] at hrun
    exact ⟨_, hrun.trans (by simp [goInt, hlong]), hrow _ (setRow_heap _ _ _ _ _ _ hg), below_setRow hB (Nat.le_refl _) _⟩
end Go.Proofs.Qxb6615958a
