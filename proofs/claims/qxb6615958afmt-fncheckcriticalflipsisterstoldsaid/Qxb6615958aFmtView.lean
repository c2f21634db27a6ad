import Derived.Test.Qxb6615958aFmtCopy
import Derived.Test.Qxb6615958aFmtCards
import Derived.ProofKit
import Derived.OpenShut
import Derived.ShutString
import Derived.ChangeOld
import Derived.SizedLaws
import Derived.Deep.Matrix
import Derived.Stop.JoinedTold
import Derived.SevenToldRow
namespace Go.Proofs.Qxb6615958aFmt
open Go.ChangeShapes Go.WideShapes Go.ChangeAt Go.RowKit Go.Deep
open Go.Extern.Stop Go.Stop Go.Extern

theorem own : ownKnob Tryf.prog.godebug = none := by kernel_rfl
theorem laidOut : laidOutB Tryf.prog = true := by kernel_rfl
theorem cells24 : Tryf.prog.cellsOf 24 = 1 := by kernel_rfl
theorem cells3 : Tryf.prog.cellsOf 3 = 1 := by kernel_rfl
theorem cells4 : Tryf.prog.cellsOf 4 = 1 := by kernel_rfl
theorem stops : Tryf.pinned.checked.prog.stops = ["fmt.errorf"] := by kernel_rfl
theorem stopKnobs : Tryf.pinned.checked.prog.stopKnobs = [] := by kernel_rfl
theorem quiet (os : Os) : Stop.quiet Tryf.pinned.checked.prog os := by
  intro k hk
  rw [stopKnobs] at hk
  cases hk

def bOf : Option Addr → Nat
  | some a => a.block
  | none => 0
def oOf : Option Addr → Nat
  | some a => a.off
  | none => 0

/-- Where a slice has an element its address is plain. -/
theorem plain_addr {W : World} {a : Addr} {v : Value} (h : W.cell? (a.add 0) = some v) : a = ⟨a.block, a.off, none⟩ := by
  obtain ⟨b, off, spot⟩ := a
  have hspot : spot = none := by simpa [Addr.add] using World.cell?_spot h
  subst hspot
  rfl

theorem int_row {W : World} {A : Option Addr} {L C : Nat} {Z : List Int} (hL : L ≤ C) (hm : C ≤ maxLen) (hz : Z.length = C) (hn : A = none → C = 0) (hc : ∀ a', A = some a' → ∀ c, c < C → W.cell? (a'.add c) = some (.int .i64 (Z.getD c 0))) :
    IntRow W A L (bOf A) (oOf A) (Z.take L) := by
  unfold maxLen at hm
  cases A with
  | none => 
    have := hn rfl
    exact ⟨fun h => by omega, fun k hk => by omega, by rw [List.length_take]; omega, by omega⟩
  | some a' =>
    have hcc := hc a' rfl
    refine ⟨fun h => ?_, fun k hk => ?_, by rw [List.length_take]; omega, by omega⟩
    · exact congrArg some (plain_addr (hcc 0 (by omega)))
    · have h1 := hcc k (by omega)
      have h2 := plain_addr (hcc 0 (by omega))
      rw [h2, add_at] at h1
      rw [getD_take, if_pos hk]
      exact h1

theorem ints_view {H : Type} {enc : TypeId × Value → H} {W : World} {a : Option Addr} {len cap : Nat} {d : DataW H} {p : List MemPlace} (h : DataW.Trod enc Tryf.prog W 0 (fun _ => true) true 24 (.slice a len cap) d p) :
    ∃ b off zs, IntRow W a len b off zs := by
  obtain ⟨fuel, hf⟩ := h
  rcases open_ints Tryf.underlying24 Tryf.underlying3 cells3 hf with ⟨hcs, _⟩ | ⟨x, l, c, zs, hcs, _, hl, hm, hz, _, hcell, _⟩
  · simp [Value.cells] at hcs
    obtain ⟨rfl, rfl, rfl⟩ := hcs
    exact ⟨_, _, _, int_row (C := 0) (Z := []) (Nat.le_refl _) (Nat.zero_le _) rfl (fun _ => rfl) (fun _ h => by cases h)⟩
  · simp [Value.cells] at hcs
    obtain ⟨rfl, rfl, rfl⟩ := hcs
    simp only [if_true] at hz
    exact ⟨_, _, _, int_row hl hm hz (fun h => by cases h) (fun a' h c hc => by cases h; exact hcell c (by omega))⟩

theorem bools_view {H : Type} {enc : TypeId × Value → H} {W : World} {a : Option Addr} {len cap : Nat} {d : DataW H} {p : List MemPlace} (h : DataW.Trod enc Tryf.prog W 0 (fun _ => true) true 23 (.slice a len cap) d p) :
    ∃ b off bs, BoolRow W a len b off bs := by
  obtain ⟨fuel, hf⟩ := h
  rcases open_slice1 Tryf.underlying23 cells4 hf with ⟨hcs, _⟩ | ⟨x, l, c, m, n, V, D, Pl, hcs, _, hl, hm, hmm, _, hcell⟩
  · simp [Value.cells] at hcs
    obtain ⟨rfl, rfl, rfl⟩ := hcs
    exact ⟨0, 0, [], fun h => by omega, fun k hk => by omega, rfl, Nat.zero_le _⟩
  · simp [Value.cells] at hcs
    obtain ⟨rfl, rfl, rfl⟩ := hcs
    simp only [if_true] at hmm
    unfold maxLen at hm
    have each : ∀ i, i < cap → ∃ y : Bool, W.cell? (x.add i) = some (.bool y) := fun i hi => by
      obtain ⟨h1, h2⟩ := hcell i (by omega)
      obtain ⟨y, hy, _⟩ := DataW.trod_bool Tryf.underlying4 h2
      simp at hy
      exact ⟨y, by rw [h1, hy]⟩
    obtain ⟨y, hy⟩ := choose_lt each
    by_cases h0 : len = 0
    · subst h0
      exact ⟨0, 0, [], fun h => by omega, fun k hk => by omega, rfl, Nat.zero_le _⟩
    · have hpl := plain_addr (hy 0 (by omega))
      refine ⟨x.block, x.off, (List.range len).map y, fun _ => congrArg some hpl, fun k hk => ?_, by simp, by omega⟩
      have := hy k (by omega)
      rw [hpl, add_at] at this
      rw [this]
      simp [List.getD_eq_getElem?_getD, hk]

theorem ids_view {H : Type} {enc : TypeId × Value → H} {W : World} {a : Option Addr} {len cap : Nat} {d : DataW H} {p : List MemPlace} (h : DataW.Trod enc Tryf.prog W 0 (fun _ => true) true 22 (.slice a len cap) d p) :
    len ≤ cap ∧ ∃ b off rs, IdsRow W a len b off rs := by
  obtain ⟨fuel, hf⟩ := h
  rcases open_int_rows Tryf.underlying22 Tryf.underlying24 Tryf.underlying3 cells24 cells3 hf with ⟨hcs, _⟩ | ⟨x, l, c, A, L, C, Z, hcs, _, hl, hm, _, hrow⟩
  · simp [Value.cells] at hcs
    obtain ⟨rfl, rfl, rfl⟩ := hcs
    exact ⟨Nat.le_refl _, 0, 0, [], fun h => by omega, fun k hk => by omega, rfl, Nat.zero_le _, fun r hr => by cases hr⟩
  · simp [Value.cells] at hcs
    obtain ⟨rfl, rfl, rfl⟩ := hcs
    unfold maxLen at hm
    refine ⟨hl, ?_⟩
    by_cases h0 : len = 0
    · subst h0
      exact ⟨0, 0, [], fun h => by omega, fun k hk => by omega, rfl, Nat.zero_le _, fun r hr => by cases hr⟩
    · have hpl := plain_addr (hrow 0 (by omega)).1
      refine ⟨x.block, x.off, (List.range len).map (fun r => (⟨A r, L r, C r, bOf (A r), oOf (A r), (Z r).take (L r)⟩ : Row)), fun _ => congrArg some hpl, fun k hk => ?_, by simp, by omega, fun r hr => ?_⟩
      · have := (hrow k (by omega)).1
        rw [hpl, add_at] at this
        rw [this]
        simp [List.getD_eq_getElem?_getD, hk, Row.val]
      · obtain ⟨j, hj, rfl⟩ := List.mem_map.1 hr
        have hj' := List.mem_range.1 hj
        obtain ⟨_, e1, e2, e3, _, e5, e6⟩ := hrow j (by omega)
        exact int_row e1 e2 e3 e5 (fun a' h c hc => (e6 a' h).2 c hc)
end Go.Proofs.Qxb6615958aFmt
