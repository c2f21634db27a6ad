import Derived.Test.Qxb6615790aFmtStr
import Derived.Deep.OwnRows
import Derived.Laws.CopyOwn
namespace Go.Proofs.Qxb6615790aFmt
open Go.RowKit Go.Maps
open Go.Extern.Stop Go.Stop Go.Extern

theorem Tryf.info9 : (Tryf.prog.info? 9).map (fun i => (i.zero, i.size, i.bytes)) = some (some (.string ⟨#[]⟩), 1, 16) := by kernel_rfl
theorem Tryf.size9 : (Tryf.prog.info? 9).map (·.size) = some 1 := by kernel_rfl

/-- 'true' came back, and of what was there nothing has turned. -/
def Yes (W : World) (e : Ending) (w' : World) : Prop := e = .returned (.bool true) ∧ Below W.heap.size W w'

theorem length_made (z : Array Value) (n : Nat) : (madeCells z n).toList.length = n := by simp [madeCells]

theorem one_cells (ss : List ByteArray) : ∀ v ∈ ss.map Value.string, v.oneCell' = true := by
  intro v hv
  obtain ⟨s, _, rfl⟩ := List.mem_map.1 hv
  rfl

theorem add_at (b o j : Nat) : (⟨b, o, none⟩ : Addr).add j = ⟨b, o + j, none⟩ := by
  unfold Addr.add
  split
  · rename_i h; subst h; rfl
  · rfl

/-- What 'copy' asks of its source. -/
theorem StrRow.src {w : World} {a : Option Addr} {n b o : Nat} {ss : List ByteArray} (h : StrRow w a n b o ss) (j : Nat) (v : Value) (hj : (ss.map Value.string)[j]? = some v) : w.cell? ((⟨b, o, none⟩ : Addr).add j) = some v := by
  have hl := h.long
  have hj' : j < ss.length := by
    rcases Nat.lt_or_ge j ss.length with h1 | h1
    · exact h1
    · rw [List.getElem?_eq_none (by simpa using h1)] at hj; cases hj
  have hc := h.cells j (by omega)
  rw [List.getD_eq_getElem?_getD, List.getElem?_eq_getElem hj'] at hc
  rw [List.getElem?_map, List.getElem?_eq_getElem hj'] at hj
  simp only [Option.map_some, Option.some.injEq] at hj
  rw [← hj, add_at]
  simpa using hc

/-- Block g is a row of the strings L, all of it free. -/
def RowS (w : World) (g : Nat) (L : List ByteArray) : Prop := w.heap[g]? = some (.cells (L.map Value.string).toArray 9 (0, 0))

theorem made_strs (n : Nat) : madeCells #[.string ⟨#[]⟩] n = ((List.replicate n (⟨#[]⟩ : ByteArray)).map Value.string).toArray := by
  apply Array.ext'
  simp [madeCells]
  apply List.ext_getElem
  · simp
  · intro i h1 h2
    simp [Nat.mod_one]

theorem RowS.made (w : World) (n : Nat) : RowS (w.alloc (.cells (madeCells #[.string ⟨#[]⟩] n) 9)) w.heap.size (List.replicate n ⟨#[]⟩) := by
  unfold RowS
  rw [heap_alloc_new, made_strs]

theorem RowS.lt {w : World} {g : Nat} {L : List ByteArray} (h : RowS w g L) : g < w.heap.size := (Array.getElem?_eq_some_iff.1 h).1

theorem RowS.kept {w w' : World} {g : Nat} {L : List ByteArray} (h : RowS w g L) (hb : w'.heap[g]? = w.heap[g]?) : RowS w' g L := hb.trans h

theorem RowS.cell {w : World} {g : Nat} {L : List ByteArray} (h : RowS w g L) (k : Nat) (hk : k < L.length) : w.cell? ⟨g, k, none⟩ = some (.string (L.getD k ByteArray.empty)) := by
  have h' : w.heap[g]? = some (.cells (L.map Value.string).toArray 9 (0, 0)) := h
  simp [World.cell?, h', List.getElem?_eq_getElem hk, List.getD_eq_getElem?_getD]

theorem RowS.free {w : World} {g : Nat} {L : List ByteArray} (h : RowS w g L) (k : Nat) : w.frozen? ⟨g, k, none⟩ = false := by
  have h' : w.heap[g]? = some (.cells (L.map Value.string).toArray 9 (0, 0)) := h
  simp [World.frozen?, h']

theorem RowS.set {w : World} {g : Nat} {L : List ByteArray} (h : RowS w g L) (k : Nat) (x : ByteArray) : RowS (w.setCell ⟨g, k, none⟩ (.string x)) g (L.set k x) := by
  have h' : w.heap[g]? = some (.cells (L.map Value.string).toArray 9 (0, 0)) := h
  have hlt := h.lt
  unfold RowS
  simp only [World.setCell, Array.getElem?_modify, h', if_true]
  simp [List.map_set]

theorem RowS.row {w : World} {g n : Nat} {L : List ByteArray} (h : RowS w g L) (hn : L.length = n) (hs : n ≤ 140737488351232) (hz : ∀ s ∈ L, s.size ≤ maxLen) : StrRow w (some ⟨g, 0, none⟩) n g 0 L :=
  ⟨fun _ => rfl, fun k hk => by rw [Nat.zero_add]; exact h.cell k (by omega), hn, hs, hz⟩

/-- 'copy(dst, xs)', dst a row of the call's own, at least as long as xs. -/
theorem StrRow.copy {w : World} {a : Option Addr} {n b o : Nat} {ss : List ByteArray} (h : StrRow w a n b o ss) (c g m m' : Nat) (cur : List ByteArray) (hm : n ≤ m) (hm' : m = cur.length) (hg : RowS w g cur) :
    ∃ w2, Sem.run Tryf.prog (Builtin.copy_ #[22, 22] 3 #[.slice (some ⟨g, 0, none⟩) m m', .slice a n c]) w = .ok (.int .i64 n) w2 ∧ RowS w2 g (ss ++ cur.drop n) ∧ w.grownBy w2 (some g) ∧ w2.heap.size = w.heap.size := by
  have hl := h.long
  have hmin : Nat.min n m = n := Nat.min_eq_left hm
  by_cases h0 : n = 0
  · subst h0
    have hs : ss = [] := List.eq_nil_of_length_eq_zero hl
    subst hs
    exact ⟨w, run_copy_none (P := Tryf.prog) w 22 22 3 9 _ _ _ _ _ _ Tryf.underlying22 Tryf.size9 (by simp), by simpa using hg, ⟨rfl, rfl, rfl, Nat.le_refl _, fun _ _ _ => rfl⟩, rfl⟩
  · have ha := h.here (by omega)
    subst ha
    have hrun := run_copy_row (P := Tryf.prog) w 22 22 3 9 g 0 m m' ⟨b, o, none⟩ n c (cur.map Value.string).toArray 9 (ss.map Value.string) Tryf.underlying22 Tryf.size9 hg (by rw [hmin]; simpa using hl) h.src (by simp; omega) (one_cells ss)
    have e : (List.take 0 (cur.map Value.string).toArray.toList ++ List.map Value.string ss ++ List.drop (0 + (List.map Value.string ss).length) (cur.map Value.string).toArray.toList).toArray = ((ss ++ cur.drop n).map Value.string).toArray := by
      simp [hl]
    rw [e] at hrun
    refine ⟨w.setRow g ((ss ++ cur.drop n).map Value.string).toArray, hrun.trans (by simp [goInt, hl]), setRow_heap w g _ _ _ _ hg, ⟨rfl, rfl, rfl, by simp [World.setRow], fun k _ hk => setRow_other w g k _ (fun e => hk (by rw [e]))⟩, by simp [World.setRow]⟩
end Go.Proofs.Qxb6615790aFmt
